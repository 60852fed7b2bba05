import PyProof.Rows.All
import Wide.All
import OpenK.AllK
import Wide.FinOn
import PySem.Challenge.RW_kq0019_05
open PySem PySem.W PyProof.Rows PySem.Calls PySem.Spec
set_option Elab.async false
set_option maxRecDepth 100000
set_option maxHeartbeats 0
set_option rowWalk.seconds 0
set_option genSizeOf false
set_option genSizeOfSpec false
set_option genInjectivity false
set_option compiler.extract_closed false
set_option linter.all false
namespace Mine
theorem keep_goal {p : Prop} (_ : True) (h : p) : p := h
section
local macro_rules | `(tactic| o_head $_) => `(tactic| refine keep_goal ?hw ?hc)
local macro_rules | `(tactic| w_witness2) => `(tactic| exact trivial)
open_top hd for (PySem.Challenge.rw_kq0019_05.row)
end
end Mine
theorem Mine.walk_off : True := by
  w_top off
  trivial
namespace Mine
theorem dq_attrs : PlainAttrs "collections.deque" :=
  ⟨⟨"collections.deque.__getattribute__", by rw [typeLookup_type, builtinLookup_eq_fast]; kernel_rfl, by decide +kernel⟩, by rw [typeLookup_type, builtinLookup_eq_fast]; kernel_rfl⟩
theorem dq_owner : Manifest.owners.lookup (String.ofList ['e', 'u', 'q', 'e', 'd', '.', 's', 'n', 'o', 'i', 't', 'c', 'e', 'l', 'l', 'o', 'c'].reverse) = some Manifest.sig_collections_deque := by kernel_rfl
theorem dq_slot_append : Slot "collections.deque" "append" "collections.deque.append" :=
  .of (owner := "collections.deque") (n := "append") (by rw [typeLookup_type, builtinLookup_eq_fast]; kernel_rfl) (by decide +kernel) (by decide +kernel) (by decide +kernel)
    (by first | exact .inl (by decide +kernel) | exact .inr (by decide +kernel)) (by rw [isSubtype_type]; kernel_rfl)
theorem dq_entry_append : entryFor table "collections.deque.append" = some Builtin.«collections.deque.append» := entryFor_of_tree (by kernel_rfl)
theorem dq_args_append (a b : Value) : argsOk "collections.deque.append" ⟨[a, b], []⟩ := by
  unfold argsOk; rw [signature?_of (id := "collections.deque.append") (n := ['d', 'n', 'e', 'p', 'p', 'a']) (o := ['e', 'u', 'q', 'e', 'd', '.', 's', 'n', 'o', 'i', 't', 'c', 'e', 'l', 'l', 'o', 'c']) (by kernel_rfl) dq_owner]; kernel_rfl
theorem dq_type_append : typeOf (.builtin "collections.deque.append") = pure (.type "method_descriptor") := by show builtinType _ = _; rw [builtinType_eq_fast]; kernel_rfl
theorem dq_slot_appendleft : Slot "collections.deque" "appendleft" "collections.deque.appendleft" :=
  .of (owner := "collections.deque") (n := "appendleft") (by rw [typeLookup_type, builtinLookup_eq_fast]; kernel_rfl) (by decide +kernel) (by decide +kernel) (by decide +kernel)
    (by first | exact .inl (by decide +kernel) | exact .inr (by decide +kernel)) (by rw [isSubtype_type]; kernel_rfl)
theorem dq_entry_appendleft : entryFor table "collections.deque.appendleft" = some Builtin.«collections.deque.appendleft» := entryFor_of_tree (by kernel_rfl)
theorem dq_args_appendleft (a b : Value) : argsOk "collections.deque.appendleft" ⟨[a, b], []⟩ := by
  unfold argsOk; rw [signature?_of (id := "collections.deque.appendleft") (n := ['t', 'f', 'e', 'l', 'd', 'n', 'e', 'p', 'p', 'a']) (o := ['e', 'u', 'q', 'e', 'd', '.', 's', 'n', 'o', 'i', 't', 'c', 'e', 'l', 'l', 'o', 'c']) (by kernel_rfl) dq_owner]; kernel_rfl
theorem dq_type_appendleft : typeOf (.builtin "collections.deque.appendleft") = pure (.type "method_descriptor") := by show builtinType _ = _; rw [builtinType_eq_fast]; kernel_rfl
theorem dq_slot_pop : Slot "collections.deque" "pop" "collections.deque.pop" :=
  .of (owner := "collections.deque") (n := "pop") (by rw [typeLookup_type, builtinLookup_eq_fast]; kernel_rfl) (by decide +kernel) (by decide +kernel) (by decide +kernel)
    (by first | exact .inl (by decide +kernel) | exact .inr (by decide +kernel)) (by rw [isSubtype_type]; kernel_rfl)
theorem dq_entry_pop : entryFor table "collections.deque.pop" = some Builtin.«collections.deque.pop» := entryFor_of_tree (by kernel_rfl)
theorem dq_args_pop (a : Value) : argsOk "collections.deque.pop" ⟨[a], []⟩ := by
  unfold argsOk; rw [signature?_of (id := "collections.deque.pop") (n := ['p', 'o', 'p']) (o := ['e', 'u', 'q', 'e', 'd', '.', 's', 'n', 'o', 'i', 't', 'c', 'e', 'l', 'l', 'o', 'c']) (by kernel_rfl) dq_owner]; kernel_rfl
theorem dq_type_pop : typeOf (.builtin "collections.deque.pop") = pure (.type "method_descriptor") := by show builtinType _ = _; rw [builtinType_eq_fast]; kernel_rfl
theorem dq_slot_popleft : Slot "collections.deque" "popleft" "collections.deque.popleft" :=
  .of (owner := "collections.deque") (n := "popleft") (by rw [typeLookup_type, builtinLookup_eq_fast]; kernel_rfl) (by decide +kernel) (by decide +kernel) (by decide +kernel)
    (by first | exact .inl (by decide +kernel) | exact .inr (by decide +kernel)) (by rw [isSubtype_type]; kernel_rfl)
theorem dq_entry_popleft : entryFor table "collections.deque.popleft" = some Builtin.«collections.deque.popleft» := entryFor_of_tree (by kernel_rfl)
theorem dq_args_popleft (a : Value) : argsOk "collections.deque.popleft" ⟨[a], []⟩ := by
  unfold argsOk; rw [signature?_of (id := "collections.deque.popleft") (n := ['t', 'f', 'e', 'l', 'p', 'o', 'p']) (o := ['e', 'u', 'q', 'e', 'd', '.', 's', 'n', 'o', 'i', 't', 'c', 'e', 'l', 'l', 'o', 'c']) (by kernel_rfl) dq_owner]; kernel_rfl
theorem dq_type_popleft : typeOf (.builtin "collections.deque.popleft") = pure (.type "method_descriptor") := by show builtinType _ = _; rw [builtinType_eq_fast]; kernel_rfl
theorem dq_slot_len : Slot "collections.deque" "__len__" "collections.deque.__len__" :=
  .of (owner := "collections.deque") (n := "__len__") (by rw [typeLookup_type, builtinLookup_eq_fast]; kernel_rfl) (by decide +kernel) (by decide +kernel) (by decide +kernel)
    (by first | exact .inl (by decide +kernel) | exact .inr (by decide +kernel)) (by rw [isSubtype_type]; kernel_rfl)
theorem dq_entry_len : entryFor table "collections.deque.__len__" = some Builtin.«collections.deque.__len__» := entryFor_of_tree (by kernel_rfl)
theorem dq_args_len (a : Value) : argsOk "collections.deque.__len__" ⟨[a], []⟩ := by
  unfold argsOk; rw [signature?_of (id := "collections.deque.__len__") (n := ['_', '_', 'n', 'e', 'l', '_', '_']) (o := ['e', 'u', 'q', 'e', 'd', '.', 's', 'n', 'o', 'i', 't', 'c', 'e', 'l', 'l', 'o', 'c']) (by kernel_rfl) dq_owner]; kernel_rfl
theorem dq_slot_init : Slot "collections.deque" "__init__" "collections.deque.__init__" :=
  .of (owner := "collections.deque") (n := "__init__") (by rw [typeLookup_type, builtinLookup_eq_fast]; kernel_rfl) (by decide +kernel) (by decide +kernel) (by decide +kernel)
    (by first | exact .inl (by decide +kernel) | exact .inr (by decide +kernel)) (by rw [isSubtype_type]; kernel_rfl)
theorem dq_entry_init : entryFor table "collections.deque.__init__" = some Builtin.«collections.deque.__init__» := entryFor_of_tree (by kernel_rfl)

abbrev dqO (vs : List Value) (n : Int) : Obj := { cls := .type "collections.deque", data := .fields (.none :: rawInt n :: vs).toArray }
section
variable {prog : Program} {w : World} {A : Around} {E : Value → Shared → Prop} {s : Shared} {h₀ : Heap} {L : Addr} {m : Str → Option Value} {news news' : List (Addr × Obj)} {q : Addr} {vs : List Value} {n : Int}
theorem dq_typeIs (ho : s.heap.get? q = some (dqO vs n)) : s.TypeIs (.ref q) "collections.deque" := ⟨_, ho, rfl⟩
theorem dq_method {M : Model} {name : Str} {id : String} {pl : Sem Bool} {Q : Value × List Value → Shared → Prop} (slot : Slot "collections.deque" name id) (hty : typeOf (.builtin id) = pure (.type "method_descriptor"))
    (N : News h₀ L s.heap news) (hm : (q, dqO vs n) ∈ news) (h : Q (.builtin id, [.ref q]) s) : wpAny M A (getMethod (.ref q) name pl) Q E s :=
  getMethod_builtin (dq_typeIs (N.get hm)) dq_attrs slot hty (fun a e => by cases e; exact ⟨_, N.get hm, rfl⟩) h
theorem dq_change {f : Array Value → Array Value} {vs' : List Value} {Q : Unit → Shared → Prop} (F : Fr h₀ L s.heap m) (N : News h₀ L s.heap news) (U : Upd q (dqO vs n) (dqO vs' (n + 1)) news news')
    (hf : f vs.toArray = vs'.toArray) (hsz : vs'.length ≤ 1000000)
    (h : ∀ h', Fr h₀ L h' m → News h₀ L h' news' → Q () { s with heap := h' }) : wpAny (model prog w) A (Builtin.Deque.change (.ref q) f) Q E s := by
  obtain ⟨pre, post, rfl, rfl, a, b⟩ := U.split
  have z := N (q, dqO vs n) (List.mem_append.mpr (.inr (.head _)))
  unfold Builtin.Deque.change Builtin.Deque.state field fieldsOf
  dsimp only
  refine wpAny_bind (wpAny_bind (wpAny_bind (wpAny_bind (wpAny_load z.1 (wpAny_pure ?_)))))
  have e1 : (Value.none :: rawInt n :: vs).toArray[1]? = some (rawInt n) := by simp
  rw [e1]
  refine wpAny_pure (wpAny_pure ?_)
  unfold updateFields
  refine wpAny_bind (wpAny_load z.1 ?_)
  dsimp only
  have e : (Obj.mapFields (fun vs => #[vs.getD 0 .none, rawInt (if true = true then n + 1 else n)] ++ f (vs.extract 2 vs.size)) (dqO vs n)) = dqO vs' (n + 1) := by
    unfold Obj.mapFields
    simp [hf]
  have U' := news_upd F N a b e rfl
  refine wpAny_bind (wpAny_update z.1 ?_)
  unfold lookBehind
  have g := (U'.2 (q, dqO vs' (n + 1)) (by simp)).1
  refine wpAny_bind (wpAny_loadPart g ?_)
  have k : (dqO vs' (n + 1)).data.pastItsLine = none := by
    show (Data.fields _).pastItsLine = none
    unfold Data.pastItsLine
    simp [sizeLine]
    omega
  rw [k]
  exact wpAny_pure (h _ U'.1 U'.2)

theorem dq_append {x : Value} {Q : Value → Shared → Prop} (F : Fr h₀ L s.heap m) (N : News h₀ L s.heap news) (U : Upd q (dqO vs n) (dqO (vs ++ [x]) (n + 1)) news news') (hsz : vs.length ≤ 900000)
    (h : ∀ h', Fr h₀ L h' m → News h₀ L h' news' → Q .none { s with heap := h' }) : wpAny (model prog w) A (call (.builtin "collections.deque.append") [.ref q, x]) Q E s := by
  have hm : (q, dqO vs n) ∈ news := by obtain ⟨pre, post, rfl, _⟩ := U.split; simp
  refine wpAny_call_entry dq_slot_append (dq_typeIs (N.get hm)) dq_entry_append ?_ (dq_args_append _ _)
  show wpAny _ _ (Builtin.Deque.pushRight (.ref q) x >>= fun _ => ret .none) _ _ s
  unfold Builtin.Deque.pushRight
  refine wpAny_bind (wpAny_bind (dq_change F N U (by simp) (by simp; omega) fun h' F' N' => ?_))
  have hm' : (q, dqO (vs ++ [x]) (n + 1)) ∈ news' := by obtain ⟨pre, post, _, rfl, _⟩ := U.split; simp
  have g := N'.get hm'
  unfold Builtin.Deque.maxlen field fieldsOf
  refine wpAny_bind (wpAny_bind (wpAny_bind (wpAny_bind (wpAny_load g (wpAny_pure ?_)))))
  have e1 : (Value.none :: rawInt (n + 1) :: (vs ++ [x])).toArray[0]? = some .none := by simp
  rw [e1]
  exact wpAny_pure (wpAny_pure (wpAny_pure (wpAny_pure ⟨_, rfl, h _ F' N'⟩)))
theorem dq_appendleft {x : Value} {Q : Value → Shared → Prop} (F : Fr h₀ L s.heap m) (N : News h₀ L s.heap news) (U : Upd q (dqO vs n) (dqO (x :: vs) (n + 1)) news news') (hsz : vs.length ≤ 900000)
    (h : ∀ h', Fr h₀ L h' m → News h₀ L h' news' → Q .none { s with heap := h' }) : wpAny (model prog w) A (call (.builtin "collections.deque.appendleft") [.ref q, x]) Q E s := by
  have hm : (q, dqO vs n) ∈ news := by obtain ⟨pre, post, rfl, _⟩ := U.split; simp
  refine wpAny_call_entry dq_slot_appendleft (dq_typeIs (N.get hm)) dq_entry_appendleft ?_ (dq_args_appendleft _ _)
  show wpAny _ _ (Builtin.Deque.pushLeft (.ref q) x >>= fun _ => ret .none) _ _ s
  unfold Builtin.Deque.pushLeft
  refine wpAny_bind (wpAny_bind (dq_change F N U (by simp) (by simp; omega) fun h' F' N' => ?_))
  have hm' : (q, dqO (x :: vs) (n + 1)) ∈ news' := by obtain ⟨pre, post, _, rfl, _⟩ := U.split; simp
  have g := N'.get hm'
  unfold Builtin.Deque.maxlen field fieldsOf
  refine wpAny_bind (wpAny_bind (wpAny_bind (wpAny_bind (wpAny_load g (wpAny_pure ?_)))))
  have e1 : (Value.none :: rawInt (n + 1) :: (x :: vs)).toArray[0]? = some .none := by simp
  rw [e1]
  exact wpAny_pure (wpAny_pure (wpAny_pure (wpAny_pure ⟨_, rfl, h _ F' N'⟩)))
theorem dq_pop {x : Value} {Q : Value → Shared → Prop} (F : Fr h₀ L s.heap m) (N : News h₀ L s.heap news) (U : Upd q (dqO (vs ++ [x]) n) (dqO vs (n + 1)) news news') (hsz : vs.length ≤ 900000)
    (h : ∀ h', Fr h₀ L h' m → News h₀ L h' news' → Q x { s with heap := h' }) : wpAny (model prog w) A (call (.builtin "collections.deque.pop") [.ref q]) Q E s := by
  have hm : (q, dqO (vs ++ [x]) n) ∈ news := by obtain ⟨pre, post, rfl, _⟩ := U.split; simp
  have g := N.get hm
  refine wpAny_call_entry dq_slot_pop (dq_typeIs (N.get hm)) dq_entry_pop ?_ (dq_args_pop _)
  show wpAny _ _ (Builtin.«collections.deque.pop» ⟨[.ref q], []⟩) _ _ s
  unfold Builtin.«collections.deque.pop» selfOnly noKeywords
  refine wpAny_bind (wpAny_bind (wpAny_pure (wpAny_pure ?_)))
  unfold Builtin.Deque.items fieldsOf
  refine wpAny_bind (wpAny_bind (wpAny_bind (wpAny_load g (wpAny_pure ?_))))
  refine wpAny_pure ?_
  have e1 : ((Value.none :: rawInt n :: (vs ++ [x])).toArray.extract 2 (Value.none :: rawInt n :: (vs ++ [x])).toArray.size).back? = some x := by
    have e2 : (vs ++ [x]).take (vs.length + 1) = vs ++ [x] := List.take_of_length_le (by simp)
    simp [e2]
  rw [e1]
  refine wpAny_bind (dq_change F N U (by simp) (by omega) fun h' F' N' => ?_)
  exact wpAny_pure ⟨_, rfl, h _ F' N'⟩
theorem dq_popleft {x : Value} {Q : Value → Shared → Prop} (F : Fr h₀ L s.heap m) (N : News h₀ L s.heap news) (U : Upd q (dqO (x :: vs) n) (dqO vs (n + 1)) news news') (hsz : vs.length ≤ 900000)
    (h : ∀ h', Fr h₀ L h' m → News h₀ L h' news' → Q x { s with heap := h' }) : wpAny (model prog w) A (call (.builtin "collections.deque.popleft") [.ref q]) Q E s := by
  have hm : (q, dqO (x :: vs) n) ∈ news := by obtain ⟨pre, post, rfl, _⟩ := U.split; simp
  have g := N.get hm
  refine wpAny_call_entry dq_slot_popleft (dq_typeIs (N.get hm)) dq_entry_popleft ?_ (dq_args_popleft _)
  show wpAny _ _ (Builtin.«collections.deque.popleft» ⟨[.ref q], []⟩) _ _ s
  unfold Builtin.«collections.deque.popleft» selfOnly noKeywords
  refine wpAny_bind (wpAny_bind (wpAny_pure (wpAny_pure ?_)))
  unfold Builtin.Deque.items fieldsOf
  refine wpAny_bind (wpAny_bind (wpAny_bind (wpAny_load g (wpAny_pure ?_))))
  refine wpAny_pure ?_
  have e1 : ((Value.none :: rawInt n :: (x :: vs)).toArray.extract 2 (Value.none :: rawInt n :: (x :: vs)).toArray.size)[0]? = some x := by simp
  rw [e1]
  refine wpAny_bind (dq_change F N U (by simp) (by omega) fun h' F' N' => ?_)
  exact wpAny_pure ⟨_, rfl, h _ F' N'⟩
theorem dq_truthy {Q : Bool → Shared → Prop} (N : News h₀ L s.heap news) (hm : (q, dqO vs n) ∈ news) (hsz : vs.length ≤ 900000)
    (h : Q (!vs.isEmpty) { s with toks := s.toks + 1 + 1 }) : wpAny (model prog w) A (truthy (.ref q)) Q E s := by
  have g := N.get hm
  have hT := dq_typeIs g
  have key : wpAny (model prog w) A (runValue (.builtin "len" ⟨[.ref q], []⟩)) (fun r s' => r = .int vs.length (s.toks + 1) ∧ Q (!vs.isEmpty) s') E s := by
    refine wpAny_runValue (codeAny_builtin entry_len ?_)
    rw [Around.under_plainId plain_len _]
    unfold Builtin.«len»
    refine wpAny_bind (m := oneArg "len" _) (wpAny_pure ?_)
    refine wpAny_bind (m := callSpecial? (.ref q) (Str.ofString "__len__")) (wpAny_callSpecial?_slot (name := Str.ofString "__len__") hT dq_slot_len
      (wpAny_call_entry dq_slot_len hT dq_entry_len ?_ (dq_args_len _)))
    show wpAny _ _ (Builtin.«collections.deque.__len__» ⟨[.ref q], []⟩) _ _ _
    unfold Builtin.«collections.deque.__len__» slotArgs Builtin.Deque.size fieldsOf
    simp only [List.isEmpty_nil, Bool.not_true, Bool.false_eq_true, ↓reduceIte, bind_assoc, List.length_nil, bne_self_eq_false]
    refine wpAny_bind (wpAny_pure ?_)
    dsimp only
    refine wpAny_bind (wpAny_bind (wpAny_load g (wpAny_pure ?_)))
    refine wpAny_bind (wpAny_pure ?_)
    have e1 : (Value.none :: rawInt n :: vs).toArray.size - 2 = vs.length := by simp
    rw [e1]
    refine wpAny_bind (wpAny_mkInt (wpAny_pure ⟨_, rfl, ?_⟩))
    refine wpAny_bind (wpAny_holding (wpAny_pure ?_))
    refine wpAny_bind (wpAny_letGo ?_)
    show wpAny _ _ (if ((vs.length : Nat) : Int) < 0 then _ else _) _ _ _
    rw [if_neg (by omega)]
    show wpAny _ _ (if ((vs.length : Nat) : Int) ≥ 2 ^ 63 then _ else _) _ _ _
    rw [if_neg (by omega)]
    exact wpAny_bind (wpAny_mkInt (wpAny_pure ⟨rfl, h⟩))
  unfold truthy
  refine wpAny_bind (wpAny_callSpecial?_none (name := Str.ofString "__bool__") hT (by rw [typeLookup_type, builtinLookup_eq_fast]; kernel_rfl) ?_)
  refine wpAny_bind (wpAny_specialOf (name := Str.ofString "__len__") hT dq_slot_len.lookup ?_)
  refine wpAny_bind (wpAny_mono key (fun r s' h' => ?_) fun _ _ e => e)
  obtain ⟨rfl, hq⟩ := h'
  refine wpAny_pure ?_
  have e : ((vs.length : Int) != 0) = !vs.isEmpty := by cases vs <;> simp <;> omega
  first | exact hq | (show Q ((vs.length : Int) != 0) s'; rw [e]; exact hq)
end
end Mine

namespace Mine
theorem dq_mro : mroOf (.type "collections.deque") = pure [.type "collections.deque", .type "object"] := by rw [mroOf_type]; kernel_rfl
theorem dq_lookup_new : typeLookup (.type "collections.deque") "__new__" = pure (some (.builtin "collections.deque.__new__")) := by rw [typeLookup_type, builtinLookup_eq_fast]; kernel_rfl
theorem dq_sub_self : isSubtype (.type "collections.deque") (.type "collections.deque") = pure true := by rw [isSubtype_type]; kernel_rfl
theorem dq_called : TypeCalled "collections.deque" "collections.deque.__new__" "collections.deque.__init__" :=
  ⟨by decide +kernel, by decide +kernel, ⟨_, _, dq_mro⟩, madeBy_type dq_mro dq_lookup_new (by decide +kernel), by decide +kernel, by rw [isSubtype_type]; kernel_rfl, dq_slot_init⟩
theorem dq_typeCall : checkTypeCall "collections.deque" ⟨[], []⟩ = pure () := by kernel_rfl
theorem dq_newCall : checkBuiltinCall "collections.deque.__new__" ⟨[.type "collections.deque"], []⟩ = pure () := by kernel_rfl
theorem dq_entry_new : entryFor table "collections.deque.__new__" = some Builtin.«collections.deque.__new__» := entryFor_of_tree (by kernel_rfl)
theorem dq_plain_new : plainId "collections.deque.__new__" = true := by decide +kernel
section
variable {prog : Program} {w : World} {A : Around} {E : Value → Shared → Prop} {s : Shared}
theorem dq_code_new {Q₁ : Value → Shared → Prop}
    (h : Q₁ (.ref s.heap.objs.size) { s with heap := s.heap.push (dqO [] 0) }) :
    codeAny (model prog w) A (.call (.builtin "collections.deque.__new__") ⟨[.type "collections.deque"], []⟩) (wants Q₁ E) s := by
  refine codeAny_of_tree ?_
  show wpAny _ A.in1 (do checkBuiltinCall "collections.deque.__new__" ⟨[.type "collections.deque"], []⟩; again (.builtin "collections.deque.__new__" ⟨[.type "collections.deque"], []⟩)) _ _ s
  refine wpAny_bind (wpAny_of_eq dq_newCall (wpAny_pure ⟨plainId_quiet dq_plain_new _, codeAny_builtin dq_entry_new ?_⟩))
  rw [Around.under_plainId dq_plain_new _]
  show wpAny _ _ (Builtin.Deque.newArgs Builtin.Deque.ty ⟨[.type "collections.deque"], []⟩ >>= fun p => Builtin.Deque.new p.1 #[] none >>= fun v => ret v) _ _ s
  refine wpAny_bind ?_
  unfold Builtin.Deque.newArgs
  dsimp only
  refine wpAny_bind (wpAny_pure ?_)
  simp only [Bool.not_true, Bool.false_eq_true, if_false]
  refine wpAny_bind (wpAny_of_eq dq_sub_self ?_)
  simp only [Bool.not_true, Bool.false_eq_true, if_false]
  refine wpAny_pure ?_
  refine wpAny_bind ?_
  unfold Builtin.Deque.new
  have hd : typeHasDict (.type "collections.deque") = false := by decide +kernel
  have hz : ¬ (#[] : Array Value).size > sizeLine := by decide
  dsimp only
  rw [if_neg hz, hd]
  simp only [Bool.false_eq_true, if_false]
  refine wpAny_bind (wpAny_pure ?_)
  exact wpAny_newObj_type (wpAny_pure h) (by show _ ≤ _; decide)
theorem dq_sig_init : Manifest.signature? "collections.deque.__init__" = some ⟨.keywords, "deque", "deque", .self, [⟨"iterable", .posOrKw, false⟩, ⟨"maxlen", .posOrKw, false⟩]⟩ := by
  rw [signature?_of (id := "collections.deque.__init__") (n := ['_', '_', 't', 'i', 'n', 'i', '_', '_']) (o := ['e', 'u', 'q', 'e', 'd', '.', 's', 'n', 'o', 'i', 't', 'c', 'e', 'l', 'l', 'o', 'c']) (by kernel_rfl) dq_owner]; kernel_rfl
theorem dq_args_init (a : Value) : argsOk "collections.deque.__init__" ⟨[a], []⟩ := by
  unfold argsOk; rw [signature?_of (id := "collections.deque.__init__") (n := ['_', '_', 't', 'i', 'n', 'i', '_', '_']) (o := ['e', 'u', 'q', 'e', 'd', '.', 's', 'n', 'o', 'i', 't', 'c', 'e', 'l', 'l', 'o', 'c']) (by kernel_rfl) dq_owner]; kernel_rfl

theorem dq_clear0 {a : Addr} {R : Fin → Shared → Prop} {E' : Value → Shared → Prop} {A' : Around} (g : s.heap.get? a = some (dqO [] 0)) (h : ∀ s', s' = s → R (.done (.ret .none)) s') :
    wpAny (model prog w) A' (Builtin.Deque.clear (.ref a) >>= fun _ => ret .none) R E' s := by
  unfold Builtin.Deque.clear Builtin.Deque.items fieldsOf
  refine wpAny_bind (wpAny_bind (wpAny_bind (wpAny_bind (wpAny_load g (wpAny_pure ?_)))))
  refine wpAny_pure ?_
  have e1 : ((Value.none :: rawInt 0 :: ([] : List Value)).toArray.extract 2 (Value.none :: rawInt 0 :: ([] : List Value)).toArray.size).size > 0 ↔ False := by simp
  simp only [e1, if_false]
  exact wpAny_pure (wpAny_pure (h _ rfl))
theorem dq_new0 {Q : Value → Shared → Prop}
    (h : ∀ h', h'.objs.size = s.heap.objs.size + 1 → (∀ b o, s.heap.get? b = some o → h'.get? b = some o) → h'.get? s.heap.objs.size = some (dqO [] 0) → Q (.ref s.heap.objs.size) { s with heap := h' }) :
    wpAny (model prog w) A (call (.type "collections.deque") []) Q E s := by
  obtain ⟨c, tl, hmro⟩ := dq_called.mro
  have hmade := dq_called.made
  have hsub := dq_called.sub
  refine wpAny_call (codeAny_of_tree ?_)
  show wpAny _ _ (callAny (.type "collections.deque") _) _ _ _
  refine wpAny_pure ⟨Code.quiet_builtin _ (by decide +kernel), codeAny_builtin F.entry_type_call ?_⟩
  rw [Around.under_plain (weight_type_call_type "collections.deque" [] []) rfl]
  have h1 := dq_called.notType
  have h2 := dq_called.canCreate
  have hct := dq_typeCall
  repeat (any_goals (first | assumption | wp_step))
  refine codeAny_mono (dq_code_new (E := E) (Q₁ := fun obj s₁ => obj = .ref s.heap.objs.size ∧ s₁ = { s with heap := s.heap.push (dqO [] 0) }) ⟨rfl, rfl⟩) fun r s₁ hr => ?_
  cases r with
  | error e => exact hr
  | ok fl =>
    cases fl with
    | ret obj =>
      obtain ⟨rfl, rfl⟩ := hr
      have hS : (s.heap.push (dqO [] 0)).get? s.heap.objs.size = some (dqO [] 0) := Heap.get?_push_size _ rfl
      have hT : Shared.TypeIs { s with heap := s.heap.push (dqO [] 0) } (.ref s.heap.objs.size) "collections.deque" := ⟨_, hS, rfl⟩
      have hli := dq_called.init.lookup
      have hbi := dq_called.init.bind (.ref s.heap.objs.size)
      repeat (any_goals (first | assumption | wp_step))
      refine codeAny_mono (codeAny_call_builtin (R := wants (fun r s₂ => r = .none ∧ Q (.ref s.heap.objs.size) s₂) E) dq_called.init.plain dq_entry_init (dq_called.init.check _ _ _ _ _ _ _ _ hT (dq_args_init _) ?_)) fun r₂ s₂ hr₂ => ?_
      · show wpAny _ _ (Builtin.«collections.deque.__init__» ⟨[.ref s.heap.objs.size], []⟩) _ _ _
        have e0 : Builtin.«collections.deque.__init__» ⟨[.ref s.heap.objs.size], []⟩ = (setField (.ref s.heap.objs.size) 0 .none >>= fun _ => Builtin.Deque.clear (.ref s.heap.objs.size) >>= fun _ => ret .none) := by
          first | rfl | (unfold Builtin.«collections.deque.__init__»; simp)
        rw [e0]
        unfold setField updateField
        refine wpAny_bind (wpAny_bind (wpAny_load hS ?_))
        have e1 : 0 < (Value.none :: rawInt 0 :: ([] : List Value)).toArray.size := by simp
        dsimp only
        rw [if_pos e1]
        have e2 : Obj.mapFields (·.setIfInBounds 0 .none) (dqO [] 0) = dqO [] 0 := by unfold Obj.mapFields; rfl
        refine wpAny_update hS ?_
        have sb := Heap.SameBut.update (s.heap.push (dqO [] 0)) s.heap.objs.size (Obj.mapFields (·.setIfInBounds 0 .none))
        have g2 : ((s.heap.push (dqO [] 0)).update s.heap.objs.size (Obj.mapFields (·.setIfInBounds 0 .none))).get? s.heap.objs.size = some (dqO [] 0) := by
          rw [Heap.get?_update_self _ hS (by rw [e2]; rfl), e2]
        refine dq_clear0 (s := { s with heap := (s.heap.push (dqO [] 0)).update s.heap.objs.size (Obj.mapFields (·.setIfInBounds 0 .none)) }) g2 ?_
        rintro _ rfl
        refine ⟨rfl, h _ (by rw [sb.1, Heap.size_push]) (fun b o e => ?_) g2⟩
        rw [sb.2 b (Nat.ne_of_lt (Heap.lt_size e))]
        exact Heap.get?_push_of_some _ e
      · cases r₂ with
        | error e => exact hr₂
        | ok fl₂ =>
          cases fl₂ with
          | ret r =>
            obtain ⟨rfl, hq⟩ := hr₂
            repeat (any_goals (first | assumption | wp_step))
          | _ => exact hr₂.elim
    | _ => exact hr.elim
theorem dq_new {h₀ : Heap} {L : Addr} {m : Str → Option Value} {news : List (Addr × Obj)} {Q : Value → Shared → Prop} (F : Fr h₀ L s.heap m) (N : News h₀ L s.heap news)
    (h : ∀ q h', Fr h₀ L h' m → News h₀ L h' ((q, dqO [] 0) :: news) → (∀ p ∈ news, p.1 < q) → Q (.ref q) { s with heap := h' }) : wpAny (model prog w) A (call (.type "collections.deque") []) Q E s := by
  refine dq_new0 fun h' hsz hk hg => h _ h' ?_ ?_ fun p hp => Heap.lt_size (N p hp).1
  · obtain ⟨oL, a1, a2, hL, a3⟩ := F.ns
    exact ⟨⟨oL, a1, a2, hk _ _ hL, a3⟩, fun b o' e => hk _ _ (F.keep b o' e), F.above⟩
  · obtain ⟨oL, _, _, hL, _⟩ := F.ns
    intro p hp
    rcases List.mem_cons.mp hp with rfl | hp
    · refine ⟨hg, Nat.ne_of_gt (Heap.lt_size hL), ?_⟩
      cases hq : h₀.get? s.heap.objs.size with
      | none => rfl
      | some o' => exact absurd (Heap.lt_size (F.keep _ _ hq)) (Nat.lt_irrefl _)
    · exact ⟨hk _ _ (N p hp).1, (N p hp).2.1, (N p hp).2.2⟩
end
end Mine

namespace Mine
abbrev ent (P : Params) (k : String) (t : Tok) (v : Value) : DictEntry := ⟨PyData.keyHash P (Str.ofString k), .str (Str.ofString k) t, v⟩
abbrev ar (hd : Option Value) (d : Nat) (fs : List Env) (gs : Option (List Code)) (u : Nat) : Around := { handled := hd, depth := d, frames := some fs, guards := gs, units := u }
abbrev prog : Program := PySem.Challenge.pw_kq0019_05
abbrev fenv (ns : List (Str × NameKind)) (ig ic : Bool) (mo : List (Str × Const)) (gl : Addr) (cs : List (Str × Addr)) (q : Str) (fo : Option Addr) (cdv : Value) (bi : Addr) (L : Addr) : Env :=
  { scope := { kind := .function, names := ns, isGenerator := ig, isCoroutine := ic, more := mo }, locals := L, globals := gl, cells := cs, qual := q, func := fo, code := cdv, frame := some L, builtins := bi }
/-- the objects of a StringIO: x its text, p its place, toks of the keys kt -/
theorem units_kw (A : Around) (C : Addr) (vals : List Value) (kw : List (Str × Value)) : (A.under (.builtin "type.__call__" ⟨.ref C :: vals, kw⟩)).units = A.units + 1 := rfl
structure IoT where
  (a b c d e : Tok)
abbrev ioD (P : Params) (kt : IoT) (x : Str) (p : Nat) (v : Tok) : Obj := dictOf [ent P "_StringIO__newline" kt.a (.str (Str.ofString "\n") kt.b), ent P "_StringIO__buf" kt.c (.str x kt.d), ent P "_StringIO__pos" kt.e (.int p v)] 3
structure LxT where
  (k0 k1 k2 k3 k4 k5 k6 k7 k8 k9 k10 k11 k12 k13 k14 k15 k16 k17 k18 : Tok)
  (c4 c5 c6 c8 c9 c10 c14 c18 : Tok)
/-- the lexer's dict: io its stream, f its name, ev its eof, cm its commenters, wc its wordchars, sp whitespace_split, sv its state, ln its line, tk its token -/
abbrev lexD (P : Params) (T : LxT) (b sp : Bool) (ev : Value) (cm wc : Str) (pb fs io : Addr) (f sv : Value) (ln : Int) (tl : Tok) (tk : Str) (tt : Tok) : Obj := dictOf [
  ent P "instream" T.k0 (.ref io), ent P "infile" T.k1 f, ent P "posix" T.k2 (.bool b), ent P "eof" T.k3 ev, ent P "commenters" T.k4 (.str cm T.c4), ent P "wordchars" T.k5 (.str wc T.c5),
  ent P "whitespace" T.k6 (.str (Str.ofString " \t\x0d\n") T.c6), ent P "whitespace_split" T.k7 (.bool sp), ent P "quotes" T.k8 (.str (Str.ofString "'\"") T.c8), ent P "escape" T.k9 (.str (Str.ofString "\\") T.c9),
  ent P "escapedquotes" T.k10 (.str (Str.ofString "\"") T.c10), ent P "state" T.k11 sv, ent P "pushback" T.k12 (.ref pb), ent P "lineno" T.k13 (.int ln tl), ent P "debug" T.k14 (.int 0 T.c14),
  ent P "token" T.k15 (.str tk tt), ent P "filestack" T.k16 (.ref fs), ent P "source" T.k17 .none, ent P "_punctuation_chars" T.k18 (.str (Str.ofString "") T.c18)] 19
def ch1 (x : Str) (p : Nat) : Str := ⟨(x.cps.toList.drop p |>.take 1).toArray⟩
end Mine
namespace Mine
theorem sp_is : Str.ofString " " = ⟨#[32]⟩ := by decide +kernel
theorem slice_plus {x : Str} {a b : Int} (h0 : 0 ≤ a) (h : a ≤ b) (hb : b ≤ x.length) :
    Txt.slice (Txt.slice x (some a) (some b) ++ Str.ofString " ") none (some (-1)) = ⟨((x.cps.toList.drop a.toNat).take (b - a).toNat).toArray⟩ := by
  have e1 := eq_of_beq (slice_closes (x := x) (i := a) (j := b) ⟨h0, h, by simpa [Str.length] using hb⟩)
  rw [e1, sp_is]
  generalize (x.cps.toList.drop a.toNat).take (b - a).toNat = l
  have e2 : ((⟨l.toArray⟩ : Str) ++ (⟨#[32]⟩ : Str)) = ⟨(l ++ [32]).toArray⟩ := by
    show Str.append _ _ = _
    simp [Str.append]
  rw [e2]
  have hl : ((⟨(l ++ [32]).toArray⟩ : Str).length : Int) = l.length + 1 := by simp [Str.length]
  have e3 := eq_of_beq (slice_closes_to_neg (x := ⟨(l ++ [32]).toArray⟩) (j := -1) (k := l.length) (by omega) (by omega) (by omega))
  rw [e3]
  simp
theorem ch1_end {x : Str} {pos : Nat} {a b : Int} (ha : a = pos) (hb : b = if pos + 1 < x.length then (pos : Int) + 1 else x.length) (hp : pos < x.length) :
    Txt.slice (Txt.slice x (some a) (some b) ++ Str.ofString " ") none (some (-1)) = ch1 x pos := by
  subst ha
  have hb2 : b = (pos : Int) + 1 := by split at hb <;> omega
  subst hb2
  rw [slice_plus (by omega) (by omega) (by omega)]
  unfold ch1
  congr 3
  omega
theorem ch1_over {x : Str} {pos : Nat} (h : (x.length : Int) ≤ pos) : ch1 x pos = Str.ofString "" := by
  have e : Str.ofString "" = ⟨#[]⟩ := by decide +kernel
  rw [e]
  unfold ch1
  have : x.cps.toList.drop pos = [] := List.drop_of_length_le (by simp [Str.length] at h ⊢; omega)
  rw [this]; rfl
/-- the post as a variable -/
theorem post_gen {α : Type} {M : Model} {A : Around} {t : Sem α} {Q : α → Shared → Prop} {E : Value → Shared → Prop} {s : Shared} (h : ∀ Q' : α → Shared → Prop, (∀ f s', Q f s' → Q' f s') → wpAny M A t Q' E s) : wpAny M A t Q E s := h Q fun _ _ h => h
/-- the post as a variable, and nothing raised -/
theorem post_genF {α : Type} {M : Model} {A : Around} {t : Sem α} {Q : α → Shared → Prop} {E : Value → Shared → Prop} {s : Shared} (h : ∀ Q' : α → Shared → Prop, (∀ f s', Q f s' → Q' f s') → wpAny M A t Q' (fun _ _ => False) s) : wpAny M A t Q E s :=
  wpAny_mono (h Q fun _ _ h => h) (fun _ _ h => h) fun _ _ h => h.elim
theorem rm0 {d n m : Nat} (h : d < n) (e : Nat.ble n m = true) : d < m := Nat.lt_of_lt_of_le h (Nat.le_of_ble_eq_true e)
theorem rm1 {d n m k : Nat} (h : d < n) (e : Nat.ble (n + k) m = true) : d + k < m := Nat.lt_of_lt_of_le (Nat.add_lt_add_right h k) (Nat.le_of_ble_eq_true e)
theorem rm2 {d n m k j : Nat} (h : d < n) (e : Nat.ble (n + k + j) m = true) : d + k + j < m := Nat.lt_of_lt_of_le (Nat.add_lt_add_right (Nat.add_lt_add_right h k) j) (Nat.le_of_ble_eq_true e)
theorem lz {a n m : Nat} (h : a ≤ n) (e : Nat.ble n m = true) : a ≤ m := Nat.le_trans h (Nat.le_of_ble_eq_true e)
end Mine

local macro_rules | `(tactic| walk_at "room") => `(tactic| first | exact Nat.le_of_ble_eq_true rfl | exact Mine.rm0 (by with_reducible assumption) (by rfl) | exact Mine.rm1 (by with_reducible assumption) (by rfl) | exact Mine.rm2 (by with_reducible assumption) (by rfl) | omega)
local macro_rules | `(tactic| k_room) => `(tactic| ((try simp only [depth_under_make, depth_under_kw, depth_in1, depth_deeper, depth_caller, recursionLimit]); (try dsimp only); walk_at "room"))
local macro_rules | `(tactic| k_units) => `(tactic| ((try simp only [cLine, Around.deeper_units, Around.in1_units, units_under_make, Mine.units_kw]); (try dsimp only); walk_at "room"))
local macro_rules | `(tactic| k_all) => `(tactic| assumption)
local macro_rules | `(tactic| walk_at "subscriptTail Attribute") => `(tactic| (k_here; k_dflt (refine kba_turn (value' := PySem.Expr.Name (PySem.Str.ofString "_") ⟨0, 0, 0, 0⟩) (fun _ => rfl) ?_)))
local macro_rules | `(tactic| walk_at "subscriptTail BinOp") => `(tactic| (k_here; k_dflt (refine kba_turn (value' := PySem.Expr.Name (PySem.Str.ofString "_") ⟨0, 0, 0, 0⟩) (fun _ => rfl) ?_)))
local macro_rules | `(tactic| walk_at "conj") => `(tactic| first | with_reducible assumption | exact And.left (by with_reducible assumption) | exact And.left (And.right (by with_reducible assumption)) | exact And.left (And.right (And.right (by with_reducible assumption))) | exact And.left (And.right (And.right (And.right (by with_reducible assumption)))) | exact And.left (And.right (And.right (And.right (And.right (by with_reducible assumption))))) | exact And.left (And.right (And.right (And.right (And.right (And.right (by with_reducible assumption)))))))
local macro_rules | `(tactic| k_ne) => `(tactic| (refine neN ?_; (try dsimp only); first | with_reducible assumption | (with_reducible refine Ne.symm ?_; with_reducible assumption) | (refine Nat.ne_of_lt ?_; walk_at "conj") | (refine Nat.ne_of_gt ?_; walk_at "conj") | (refine Nat.ne_of_gt (Nat.lt_trans ?_ (by with_reducible assumption)); walk_at "conj")))

section
namespace Mine
theorem runs_toks {M : Model} {Γ : PySem.Ctx} {p : Pos} {t : Sem Fin} {fs : List Frame} {s s' : Shared} {e : End} (h : Runs M Γ p t fs s e s') : s.toks ≤ s'.toks := by
  induction h <;> (try simp only [Shared.setGen] at *) <;> first | exact Nat.le_refl _ | omega
theorem wakes_toks {M : Model} {Γ : PySem.Ctx} {p : Pos} {g : Nat} {r : Resume} {s s' : Shared} {res : GenResult} (h : Wakes M Γ p g r s res s') : s.toks ≤ s'.toks := by
  unfold Wakes at h
  split at h
  · exact h.elim
  · split at h
    · obtain ⟨e, s1, hr, _, _, rfl⟩ := h
      have := runs_toks hr
      exact this
    · rw [h.2]; exact Nat.le_refl _
    · rw [h.2]; exact Nat.le_refl _
  · obtain ⟨e, s1, hr, _, _, rfl⟩ := h
    have := runs_toks hr
    exact this
  · rw [h.2]; exact Nat.le_refl _
  · rw [h.2]; exact Nat.le_refl _
theorem wp_toks {α : Type} {M : Model} {Γ : PySem.Ctx} {Q : α → Pos → Shared → Prop} {E : Value → Pos → Shared → Prop} (t : Sem α) (p : Pos) (s : Shared) (n : Nat) (hn : n ≤ s.toks) (h : Sem.wp M Γ t Q E p s) : Sem.wp M Γ t (fun a p' s' => Q a p' s' ∧ n ≤ s'.toks) E p s := by
  revert h hn
  induction t generalizing p s with
  | pure x => exact fun hn h => ⟨h, hn⟩
  | raise v => exact fun _ h => h
  | unsupported | finish | yield | fork | await | register => exact fun _ h => h
  | rule _ k ih | «at» _ k ih | alloc _ k ih | loadIfAlive _ k ih | point _ k ih | ask k ih | os _ _ k ih | handled _ k ih | newGen _ k ih | stack k ih | thread k ih => exact fun hn h => ih _ _ _ (by exact hn) h
  | fresh k ih => exact fun hn h => ih _ _ _ (Nat.le_succ_of_le hn) h
  | load a _ k ih | genState a k ih => exact fun hn ⟨o, ho, h⟩ => ⟨o, ho, ih _ _ _ hn h⟩
  | update a _ f k ih | choose _ _ k ih => exact fun hn ⟨ha, h⟩ => ⟨ha, ih _ _ _ hn h⟩
  | call c h g l k ih => exact fun hn ⟨r, s', hr, h⟩ => ⟨r, s', hr, ih r _ _ (Nat.le_trans hn (runs_toks hr)) h⟩
  | resume g r l k ih => exact fun hn ⟨res, s', hw, h⟩ => ⟨res, s', hw, ih _ _ _ (Nat.le_trans hn (wakes_toks hw)) h⟩
/-- no token is told twice: what is drawn later is greater -/
theorem any_toks {α : Type} {M : Model} {A : Around} {t : Sem α} {Q : α → Shared → Prop} {E : Value → Shared → Prop} {s : Shared} (h : wpAny M A t (fun v s' => s.toks ≤ s'.toks → Q v s') E s) : wpAny M A t Q E s :=
  fun Γ p hΓ => Sem.wp_mono M Γ t (fun _ _ _ h => h.1 h.2) (fun _ _ _ h => h) p s (wp_toks t p s s.toks (Nat.le_refl _) (h Γ p hΓ))
end Mine

end
section
namespace Mine
/-! the plain reading of read_token for texts without quotes and backslashes, no punctuation -/
inductive LSt where | fin | white | word
deriving DecidableEq
def wsS : Str := Str.ofString " \t\x0d\n"
def isWs (c : Nat) : Bool := (Str.ofString " \t\x0d\n").cps.toList.contains c
def isCm (c : Nat) : Bool := (Str.ofString "#").cps.toList.contains c
def Plain (c : Nat) : Prop := (Str.ofString "'\"").cps.toList.contains c = false ∧ (Str.ofString "\\").cps.toList.contains c = false
def SV : LSt → Value → Prop
  | .fin, v => v = .none
  | .white, v => ∃ t, v = .str (Str.ofString " ") t
  | .word, v => ∃ t, v = .str (Str.ofString "a") t
def S (l : List Nat) : Str := ⟨l.toArray⟩
theorem S_nil : Str.ofString "" = S [] := by decide +kernel
def RV (b : Bool) (tok : List Nat) (v : Value) : Prop := if b && tok.isEmpty then v = .none else ∃ t, v = .str (S tok) t
theorem drop_next {l : List Nat} {p c : Nat} {r : List Nat} (h : l.drop p = c :: r) : l.drop (p + 1) = r ∧ p + 1 ≤ l.length := by
  have h1 : l.drop (p + 1) = (l.drop p).drop 1 := by rw [List.drop_drop]
  have h2 := congrArg List.length h
  simp at h2
  refine ⟨by rw [h1, h]; rfl, by omega⟩
end Mine

end
section
namespace Mine
section
variable {prog' : Program} {w : World} {A : Around} {E : Value → Shared → Prop} {s : Shared} {Q : Value → Shared → Prop} {c k : Nat} {t u : Tok} {y : Str} {b : Bool}
theorem ite_t {A B : Prop} (h : A) : if true = true then A else B := h
theorem ite_f {A B : Prop} (h : B) : if false = true then A else B := h
theorem in_ch (e : y.cps.toList.contains c = b) (h : Q (.bool b) s) : wpAny (model prog' w) A (compareOp .In (.str ⟨#[c]⟩ t) (.str y u)) Q E s := by
  refine P.in_str ?_
  rw [StrLaws.found_one]
  have : decide (c ∈ y.cps.toList) = y.cps.toList.contains c := by simp
  rw [this, e]; exact h
theorem notin_ch (e : y.cps.toList.contains c = b) (h : Q (.bool (!b)) s) : wpAny (model prog' w) A (compareOp .NotIn (.str ⟨#[c]⟩ t) (.str y u)) Q E s := by
  refine P.notIn_str ?_
  rw [StrLaws.found_one]
  have : decide (c ∈ y.cps.toList) = y.cps.toList.contains c := by simp
  rw [this, e]; exact h
theorem eq_ch (hy : y = ⟨#[k]⟩) (e : (c == k) = b) (h : Q (.bool b) s) : wpAny (model prog' w) A (compareOp .Eq (.str ⟨#[c]⟩ t) (.str y u)) Q E s := by
  refine P.eq_str ?_
  have : ((⟨#[c]⟩ : Str).cps.toList == y.cps.toList) = b := by
    subst hy
    rw [← e]
    simp
  rw [this]; exact h
theorem eq_nl (e : (c == 10) = b) (h : Q (.bool b) s) : wpAny (model prog' w) A (compareOp .Eq (.str ⟨#[c]⟩ t) (.str (Str.ofString "\n") u)) Q E s := eq_ch (k := 10) (by decide +kernel) e h
theorem truthy_ch {Q : Bool → Shared → Prop} (h : Q true { s with toks := s.toks + 1 + 1 }) : wpAny (model prog' w) A (truthy (.str ⟨#[c]⟩ t)) Q E s :=
  P.truthy_str (by show ¬ ((1 : Nat) : Int) ≥ 2 ^ 63; decide) (by exact h)
theorem in_lit_f {x y : Str} (e : (Builtin.Str.occurrences y x 0 y.length 1).isEmpty = true) (h : Q (.bool false) s) : wpAny (model prog' w) A (compareOp .In (.str x t) (.str y u)) Q E s :=
  P.in_str (by rw [e]; exact h)
theorem add_S {l : List Nat} (hl : l.length ≤ 100000) (h : ∀ t' k, Q (.str (S (l ++ [c])) t') { s with toks := k }) : wpAny (model prog' w) A (inplaceOp .Add (.str (S l) t) (.str ⟨#[c]⟩ u)) Q E s := by
  refine PyProof.Rows.iadd_str (fun t' k => ?_) ?_
  · have e : S l ++ (⟨#[c]⟩ : Str) = S (l ++ [c]) := by
      show Str.append _ _ = _
      simp [Str.append, S]
    rw [e]; exact h t' k
  · simp only [S, Str.length, List.size_toArray, sizeLine]
    have : [c].length = 1 := rfl
    omega
theorem truthy_S {l : List Nat} {Q : Bool → Shared → Prop} (e : l.isEmpty = b) (hl : l.length ≤ 100000) (h : Q (!b) { s with toks := s.toks + 1 + 1 }) : wpAny (model prog' w) A (truthy (.str (S l) t)) Q E s := by
  refine P.truthy_str ?_ ?_
  · simp only [S, Str.length, List.size_toArray]; omega
  · subst e
    have : (((S l).length : Int) != 0) = !l.isEmpty := by
      simp only [S, Str.length, List.size_toArray]
      cases l with
      | nil => rfl
      | cons a r => simp; omega
    rw [this]; exact h
theorem eq_S {l : List Nat} (e : l.isEmpty = b) (h : Q (.bool b) s) : wpAny (model prog' w) A (compareOp .Eq (.str (S l) t) (.str (Str.ofString "") u)) Q E s := by
  refine P.eq_str ?_
  have : ((S l).cps.toList == (Str.ofString "").cps.toList) = b := by
    subst e
    rw [S_nil]
    cases l <;> simp [S]
  rw [this]; exact h
end
end Mine

end
section
namespace Mine
theorem news_tl {h₀ h : Heap} {L : Addr} {a : Addr × Obj} {l : List (Addr × Obj)} (N : News h₀ L h (a :: l)) : News h₀ L h l := fun q hq => N q (.tail _ hq)
section
variable {prog' : Program} {w : World} {A : Around} {E : Value → Shared → Prop} {Q : Flow → Shared → Prop} {s : Shared} {env : Env} {h₀ : Heap} {L : Addr}
def WlAt {σ : Type} (h₀ : Heap) (L : Addr) (s : Shared) (Led : σ → List (Addr × Obj)) (ps : σ → List (Str × Value)) (stored : List Str) (m₀ : Str → Option Value) (P : σ → Prop) (s₂ : Shared) : Prop :=
  ∃ (c' : σ) (h' : Heap) (tk : Nat) (m' : Str → Option Value) (news' : List (Addr × Obj)), s₂ = { s with heap := h', toks := tk } ∧ Fr h₀ L h' m' ∧ News h₀ L h' news' ∧ (∀ p ∈ Led c', p ∈ news') ∧ (∀ p ∈ ps c', m' p.1 = some p.2) ∧ (∀ z, (∀ p ∈ ps c', z ≠ p.1) → stored.contains z = false → m' z = m₀ z) ∧ P c'
def WlPost {σ : Type} (h₀ : Heap) (L : Addr) (s : Shared) (Led : σ → List (Addr × Obj)) (ps : σ → List (Str × Value)) (stored : List Str) (m₀ : Str → Option Value) (P Bk : σ → Prop) (μ : σ → Nat) (n : Nat) (f : Flow) (s₂ : Shared) : Prop :=
  match f with
  | .ret _ => False
  | .brk => WlAt h₀ L s Led ps stored m₀ Bk s₂
  | _ => WlAt h₀ L s Led ps stored m₀ (fun c => P c ∧ μ c < n) s₂
theorem wl_at {σ : Type} {Led : σ → List (Addr × Obj)} {ps : σ → List (Str × Value)} {stored : List Str} {m₀ m' : Str → Option Value} {P : σ → Prop} {h' : Heap} {tk : Nat} {news' : List (Addr × Obj)} (c' : σ)
    (F : Fr h₀ L h' m') (N : News h₀ L h' news') (hn : ∀ p ∈ Led c', p ∈ news') (hk : ∀ p ∈ ps c', m' p.1 = some p.2) (hr : ∀ z, (∀ p ∈ ps c', z ≠ p.1) → stored.contains z = false → m' z = m₀ z) (hp : P c') :
    WlAt h₀ L s Led ps stored m₀ P { s with heap := h', toks := tk } := ⟨c', h', tk, m', news', rfl, F, N, hn, hk, hr, hp⟩
end
end Mine

end
section
namespace Mine
section
variable {w : World} {A₀ : Around} {base h₀ : Heap} {outer : List Env} {L : Addr} {m mg mb : Str → Option Value} {loose : List Str} {mean : ExcName → Option Value} {s : Shared} {Q E : Value → Shared → Prop} {p : Program}
  {hdl : Option Value} {d u : Nat} {gs : Option (List Code)} {rest : List (Addr × Obj)} {ns : List (Str × NameKind)} {ig ic : Bool} {mo : List (Str × Const)} {gl bi : Addr} {cs : List (Str × Addr)} {qn : Str} {fo : Option Addr} {cdv : Value}
def WC (b : Bool) : Str := if b then Str.ofString "abcdfeghijklmnopqrstuvwxyzABCDEFGHIJKLMNOPQRSTUVWXYZ0123456789_ßàáâãäåæçèéêëìíîïðñòóôõöøùúûüýþÿÀÁÂÃÄÅÆÇÈÉÊËÌÍÎÏÐÑÒÓÔÕÖØÙÚÛÜÝÞ" else Str.ofString "abcdfeghijklmnopqrstuvwxyzABCDEFGHIJKLMNOPQRSTUVWXYZ0123456789_"
def EV (b : Bool) (v : Value) : Prop := if b then v = .none else ∃ t, v = .str (Str.ofString "") t
theorem ctor_ord {h : Heap} {a b c d e f : Addr × Obj} {rest : List (Addr × Obj)} (N : News h₀ L h (f :: c :: a :: b :: d :: e :: rest)) : News h₀ L h (a :: b :: c :: d :: e :: f :: rest) := by
  intro q hq
  refine N q ?_
  (repeat' (rcases List.mem_cons.mp hq with rfl | hq))
  all_goals (repeat (first | exact List.Mem.head _ | exact hq | refine List.Mem.tail _ ?_))
end
end Mine

end
section
namespace Mine
theorem gs_get {w : World} {A : Around} {E : Value → Shared → Prop} {Q : Value → Shared → Prop} {s : Shared} {h₀ : Heap} {L ga : Addr} {news : List (Addr × Obj)} {us : List Value} {v : Value} {gn : Nat} {u : Tok} (N : News h₀ L s.heap news) (hm : (ga, listOf (us ++ [v]).toArray gn) ∈ news) (h : Q v s) :
    wpAny (model prog w) A (getItem (.ref ga) (.int (-1) u)) Q E s :=
  wpAny_getItem_list_neg ⟨_, N.get hm, rfl, gn, rfl⟩ (by decide) (by simp; omega) (by decide) (by
    have e : ((-1 : Int) + ((us ++ [v]).toArray.size : Int)).toNat = us.length := by simp; omega
    rw [e]; simp) h
theorem set_last (v v' : Value) : ∀ us : List Value, ki_setL (us ++ [v]) us.length v' = some (us ++ [v'])
  | [] => rfl
  | x :: r => by
    show (match ki_setL (r ++ [v]) r.length v' with | some q => some (x :: q) | none => none) = _
    rw [set_last v v' r]
    rfl
theorem gs_set {w : World} {A : Around} {E : Value → Shared → Prop} {Q : Unit → Shared → Prop} {s : Shared} {h₀ : Heap} {L ga : Addr} {m : Str → Option Value} {news news' : List (Addr × Obj)} {us : List Value} {v v' : Value} {gn : Nat} {u : Tok} (F : Fr h₀ L s.heap m) (N : News h₀ L s.heap news)
    (U : Upd ga (listOf (us ++ [v]).toArray gn) (listOf (us ++ [v']).toArray gn) news news') (h : ∀ h', Fr h₀ L h' m → News h₀ L h' news' → Q () { s with heap := h' }) : wpAny (model prog w) A (setItem (.ref ga) (.int (-1) u) v') Q E s :=
  ki_setNeg F N (by decide) (by decide) (j := us.length) (by
    have h1 := PySem.seqIndex_neg (k := -1) (n := (us ++ [v]).toArray.size) (by decide) (by simp; omega)
    rw [h1]
    congr 1
    simp; omega) (by simpa using set_last v v' us) U h
end Mine

end
section
namespace Mine
/-! read_token in plain words, with quotation marks, punctuation, whitespace_split -/
inductive S5 where | fin | white | word | wordq | punct | quote (q : Nat) | esc
inductive R5 where
  | ok (tok : List Nat) (st : S5) (rem : List Nat) (ln : Int) (push : Option Nat)
  | fault (tok : List Nat) (st : S5) (ln : Int)
def isQ (c : Nat) : Bool := (Str.ofString "'\"").cps.toList.contains c
def isE (c : Nat) : Bool := (Str.ofString "\\").cps.toList.contains c
def isD (c : Nat) : Bool := (Str.ofString "\"").cps.toList.contains c
def lnp (c : Nat) (ln : Int) : Int := if c == 10 then ln + 1 else ln
def rt5 (z b sp : Bool) (W U C : Nat → Bool) : List Nat → S5 → List Nat → Int → Option R5
  | [], .fin, _, ln => if z then some (.ok [] .fin [] ln none) else none
  | [], .white, tok, ln => if z then some (.ok tok .fin [] ln none) else none
  | [], .word, tok, ln => if z then some (.ok tok .fin [] ln none) else none
  | [], .punct, tok, ln => if z then some (.ok tok .fin [] ln none) else none
  | [], .quote q, tok, ln => some (.fault tok (.quote q) ln)
  | [], .esc, tok, ln => some (.fault tok .esc ln)
  | [], .wordq, _, _ => none
  | _ :: _, .fin, _, _ => none
  | _ :: _, .esc, _, _ => none
  | c :: r, .white, tok, ln =>
    if isWs c then rt5 z b sp W U C r .white tok (lnp c ln)
    else if C c then none
    else if b && isE c then none
    else if W c then rt5 z b sp W U C r .word [c] (lnp c ln)
    else if U c then rt5 z b sp W U C r .punct [c] (lnp c ln)
    else if isQ c then rt5 z b sp W U C r (.quote c) (if b then tok else [c]) (lnp c ln)
    else if sp then rt5 z b sp W U C r .word [c] (lnp c ln)
    else some (.ok [c] .white r (lnp c ln) none)
  | c :: r, .quote q, tok, ln =>
    if c == q then (if b then rt5 z b sp W U C r .wordq tok (lnp c ln) else some (.ok (tok ++ [c]) .white r (lnp c ln) none))
    else if b && isE c && isD q then rt5 z b sp W U C r .esc tok (lnp c ln)
    else rt5 z b sp W U C r (.quote q) (tok ++ [c]) (lnp c ln)
  | c :: r, .word, tok, ln =>
    if isWs c then some (.ok tok .white r (lnp c ln) none)
    else if C c then none
    else if b && isQ c then rt5 z b sp W U C r (.quote c) tok (lnp c ln)
    else if b && isE c then none
    else if W c || isQ c || (sp && !U c) then rt5 z b sp W U C r .word (tok ++ [c]) (lnp c ln)
    else some (.ok tok .white r (lnp c ln) (some c))
  | c :: r, .wordq, tok, ln =>
    if isWs c then none
    else if C c then none
    else if b && isQ c then none
    else if b && isE c then rt5 z b sp W U C r .esc tok (lnp c ln)
    else none
  | c :: r, .punct, tok, ln =>
    if isWs c then some (.ok tok .white r (lnp c ln) none)
    else if C c then none
    else if U c then rt5 z b sp W U C r .punct (tok ++ [c]) (lnp c ln)
    else some (.ok tok .white r (lnp c ln) (some c))
section
variable {z b sp : Bool} {W U C : Nat → Bool} {c q : Nat} {r tok : List Nat} {ln : Int}
theorem re_nf : rt5 z b sp W U C [] .fin tok ln = if z then some (.ok [] .fin [] ln none) else none := rfl
theorem re_nw : rt5 z b sp W U C [] .white tok ln = if z then some (.ok tok .fin [] ln none) else none := rfl
theorem re_no : rt5 z b sp W U C [] .word tok ln = if z then some (.ok tok .fin [] ln none) else none := rfl
theorem re_np : rt5 z b sp W U C [] .punct tok ln = if z then some (.ok tok .fin [] ln none) else none := rfl
theorem re_nq : rt5 z b sp W U C [] (.quote q) tok ln = some (.fault tok (.quote q) ln) := rfl
theorem re_ne : rt5 z b sp W U C [] .esc tok ln = some (.fault tok .esc ln) := rfl
theorem re_nx : rt5 z b sp W U C [] .wordq tok ln = none := rfl
theorem re_cf : rt5 z b sp W U C (c :: r) .fin tok ln = none := rfl
theorem re_ce : rt5 z b sp W U C (c :: r) .esc tok ln = none := rfl
theorem re_w : rt5 z b sp W U C (c :: r) .white tok ln =
    if isWs c then rt5 z b sp W U C r .white tok (lnp c ln)
    else if C c then none
    else if b && isE c then none
    else if W c then rt5 z b sp W U C r .word [c] (lnp c ln)
    else if U c then rt5 z b sp W U C r .punct [c] (lnp c ln)
    else if isQ c then rt5 z b sp W U C r (.quote c) (if b then tok else [c]) (lnp c ln)
    else if sp then rt5 z b sp W U C r .word [c] (lnp c ln)
    else some (.ok [c] .white r (lnp c ln) none) := rfl
theorem re_q : rt5 z b sp W U C (c :: r) (.quote q) tok ln =
    if c == q then (if b then rt5 z b sp W U C r .wordq tok (lnp c ln) else some (.ok (tok ++ [c]) .white r (lnp c ln) none))
    else if b && isE c && isD q then rt5 z b sp W U C r .esc tok (lnp c ln)
    else rt5 z b sp W U C r (.quote q) (tok ++ [c]) (lnp c ln) := rfl
theorem re_o : rt5 z b sp W U C (c :: r) .word tok ln =
    if isWs c then some (.ok tok .white r (lnp c ln) none)
    else if C c then none
    else if b && isQ c then rt5 z b sp W U C r (.quote c) tok (lnp c ln)
    else if b && isE c then none
    else if W c || isQ c || (sp && !U c) then rt5 z b sp W U C r .word (tok ++ [c]) (lnp c ln)
    else some (.ok tok .white r (lnp c ln) (some c)) := rfl
theorem re_x : rt5 z b sp W U C (c :: r) .wordq tok ln =
    if isWs c then none
    else if C c then none
    else if b && isQ c then none
    else if b && isE c then rt5 z b sp W U C r .esc tok (lnp c ln)
    else none := rfl
theorem re_p : rt5 z b sp W U C (c :: r) .punct tok ln =
    if isWs c then some (.ok tok .white r (lnp c ln) none)
    else if C c then none
    else if U c then rt5 z b sp W U C r .punct (tok ++ [c]) (lnp c ln)
    else some (.ok tok .white r (lnp c ln) (some c)) := rfl
end
def SV5 : S5 → Value → Prop
  | .fin, v => v = .none
  | .white, v => ∃ t, v = .str (Str.ofString " ") t
  | .word, v => ∃ t, v = .str (Str.ofString "a") t
  | .wordq, v => ∃ t, v = .str (Str.ofString "a") t
  | .punct, v => ∃ t, v = .str (Str.ofString "c") t
  | .quote q, v => isQ q = true ∧ ∃ t, v = .str ⟨#[q]⟩ t
  | .esc, v => ∃ t, v = .str ⟨#[92]⟩ t
/-- the lexer's dict with punctuation: pu the punctuation, pc the deque of pushed back signs -/
abbrev lexP (P : Params) (T : LxT) (k19 : Tok) (b sp : Bool) (ev : Value) (cm wc pu : Str) (pb fs io pc : Addr) (f sv : Value) (ln : Int) (tl : Tok) (tk : Str) (tt : Tok) : Obj := dictOf [
  ent P "instream" T.k0 (.ref io), ent P "infile" T.k1 f, ent P "posix" T.k2 (.bool b), ent P "eof" T.k3 ev, ent P "commenters" T.k4 (.str cm T.c4), ent P "wordchars" T.k5 (.str wc T.c5),
  ent P "whitespace" T.k6 (.str (Str.ofString " \t\x0d\n") T.c6), ent P "whitespace_split" T.k7 (.bool sp), ent P "quotes" T.k8 (.str (Str.ofString "'\"") T.c8), ent P "escape" T.k9 (.str (Str.ofString "\\") T.c9),
  ent P "escapedquotes" T.k10 (.str (Str.ofString "\"") T.c10), ent P "state" T.k11 sv, ent P "pushback" T.k12 (.ref pb), ent P "lineno" T.k13 (.int ln tl), ent P "debug" T.k14 (.int 0 T.c14),
  ent P "token" T.k15 (.str tk tt), ent P "filestack" T.k16 (.ref fs), ent P "source" T.k17 .none, ent P "_punctuation_chars" T.k18 (.str pu T.c18), ent P "_pushback_chars" k19 (.ref pc)] 20
/-- what the loop changes -/
structure LS5 where
  sv : Value
  ln : Int
  tl : Tok
  tok : Str
  tt : Tok
  pos : Nat
  tp : Tok
  pcv : List Value
  pcn : Int
  q : Bool
def PC (v : List Value) (cs : List Nat) : Prop := (v = [] ∧ cs = []) ∨ ∃ c t, v = [.str ⟨#[c]⟩ t] ∧ cs = [c]
section
variable {prog' : Program} {w : World} {A : Around} {E : Value → Shared → Prop} {Q : Flow → Shared → Prop} {s : Shared} {env : Env} {h₀ : Heap} {L : Addr}
theorem wl_whileE {σ : Type} {test : Expr} {body : List Stmt} {pos : Pos} {m₀ : Str → Option Value} (Led : σ → List (Addr × Obj)) (ps : σ → List (Str × Value)) (stored : List Str) (P Bk : σ → Prop) (μ : σ → Nat) (c₀ : σ)
    (F : Fr h₀ L s.heap m₀) (N : News h₀ L s.heap (Led c₀)) (hk : ∀ p ∈ ps c₀, m₀ p.1 = some p.2) (hp : P c₀)
    (turn : ∀ (c : σ) (u : Str → Option Value) h tk, P c → Fr h₀ L h (kstB (fun z => if stored.contains z then u z else m₀ z) (ps c)) → News h₀ L h (Led c) →
      wpAny (model prog' w) A (isTrue test env (eval test env)) (fun b s₂ =>
        if b = true then wpAny (model prog' w) A (execs body env) (WlPost h₀ L s Led ps stored m₀ P Bk μ (μ c)) E s₂ else False) E { s with heap := h, toks := tk })
    (after : ∀ (c : σ) (u : Str → Option Value) h tk, Bk c → Fr h₀ L h (kstB (fun z => if stored.contains z then u z else m₀ z) (ps c)) → News h₀ L h (Led c) → Q .next { s with heap := h, toks := tk })
    (hE : PassesOwn (model prog' w) A env E := by passes_own) :
    wpAny (model prog' w) A (exec (.While test body [] pos) env) Q E s := by
  refine wpAny_mono (Q := fun f s' => f = .next ∧ WlAt h₀ L s Led ps stored m₀ Bk s') ?_ (fun f s' hh => ?_) (fun _ _ hh => hh)
  · refine While_inv2 (fun n m nx => ∃ c : σ, nx = Led c ∧ μ c = n ∧ (∀ p ∈ ps c, m p.1 = some p.2) ∧ (∀ z, (∀ p ∈ ps c, z ≠ p.1) → stored.contains z = false → m z = m₀ z) ∧ P c) F N ⟨c₀, rfl, rfl, hk, fun _ _ _ => rfl, hp⟩ ?_ hE
    rintro n m₁ nx h tk F₁ N₁ ⟨c, hnx, hsz, h1, h2, hp'⟩
    rw [hnx] at N₁
    rw [← hsz]
    refine wpAny_mono (turn c m₁ h tk hp' (ksw_fr h1 h2 F₁) N₁) (fun b s₂ p => ?_) fun _ _ x => x
    cases b with
    | false => simp at p
    | true =>
      simp only [if_true] at p ⊢
      refine wpAny_mono p (fun f s₃ q => ?_) fun _ _ x => x
      cases f with
      | ret v => exact q.elim
      | brk => exact ⟨rfl, q⟩
      | next =>
        obtain ⟨c', h', tk', m', news', rfl, F', N', hn, hk9, hr9, hp9, hm9⟩ := q
        exact ⟨h', tk', m', Led c', μ c', rfl, F', fun p hp => N' p (hn p hp), hm9, c', rfl, rfl, hk9, hr9, hp9⟩
      | cont =>
        obtain ⟨c', h', tk', m', news', rfl, F', N', hn, hk9, hr9, hp9, hm9⟩ := q
        exact ⟨h', tk', m', Led c', μ c', rfl, F', fun p hp => N' p (hn p hp), hm9, c', rfl, rfl, hk9, hr9, hp9⟩
  · obtain ⟨rfl, c', h', tk', m', news', rfl, F', N', hn, hk9, hr9, hb⟩ := hh
    exact after c' m' h' tk' hb (ksw_fr hk9 hr9 F') fun p hp => N' p (hn p hp)
end
section
variable {prog' : Program} {w : World} {A : Around} {E : Value → Shared → Prop} {s : Shared} {Q : Value → Shared → Prop} {c k : Nat} {t u : Tok} {b : Bool}
theorem eq_sp (e : (c == 32) = b) (h : Q (.bool b) s) : wpAny (model prog' w) A (compareOp .Eq (.str ⟨#[c]⟩ t) (.str (Str.ofString " ") u)) Q E s := eq_ch (k := 32) (by decide +kernel) e h
theorem eq_cc (e : (c == k) = b) (h : Q (.bool b) s) : wpAny (model prog' w) A (compareOp .Eq (.str ⟨#[c]⟩ t) (.str ⟨#[k]⟩ u)) Q E s := eq_ch (k := k) rfl e h
/-- a test whose two roads both end false: the roads are walked only as far as the test -/
theorem test_f {test : Expr} {env : Env} {Q : Bool → Shared → Prop} (h1 : wpAny (model prog' w) A (isTrue test env (eval test env)) (fun r s' => r = false ∧ ∃ tk, s' = { s with toks := tk }) E s)
    (h2 : ∀ tk, Q false { s with toks := tk }) : wpAny (model prog' w) A (isTrue test env (eval test env)) Q E s :=
  wpAny_mono h1 (fun r s' h => by obtain ⟨rfl, tk, rfl⟩ := h; exact h2 tk) fun _ _ e => e
end
theorem isE_is {c : Nat} (h : isE c = true) : c = 92 := by
  have k : ∀ q ∈ (Str.ofString "\\").cps.toList, q = 92 := by decide +kernel
  exact k c (by simpa [isE] using h)
theorem isQ_ne {q : Nat} (h : isQ q = true) : (q == 32) = false ∧ (q == 10) = false ∧ isE q = false := by
  have k : ∀ q ∈ (Str.ofString "'\"").cps.toList, (q == 32) = false ∧ (q == 10) = false ∧ isE q = false := by decide +kernel
  exact k q (by simpa [isQ] using h)
theorem ne5 {a b c d e : Addr} (h1 : @LT.lt Nat _ a b) (h2 : @LT.lt Nat _ b c) (h3 : @LT.lt Nat _ c d) (h4 : @LT.lt Nat _ d e) :
    @Ne Nat a b ∧ @Ne Nat a c ∧ @Ne Nat a d ∧ @Ne Nat a e ∧ @Ne Nat b c ∧ @Ne Nat b d ∧ @Ne Nat b e ∧ @Ne Nat c d ∧ @Ne Nat c e ∧ @Ne Nat d e := by
  have a2 := Nat.lt_trans h1 h2
  have a3 := Nat.lt_trans a2 h3
  have a4 := Nat.lt_trans a3 h4
  have b3 := Nat.lt_trans h2 h3
  have b4 := Nat.lt_trans b3 h4
  have c4 := Nat.lt_trans h3 h4
  refine ⟨?_, ?_, ?_, ?_, ?_, ?_, ?_, ?_, ?_, ?_⟩ <;> (apply Nat.ne_of_lt; assumption)
end Mine
namespace Mine
section
variable {w : World} {A : Around} {E : Value → Shared → Prop} {Q : Flow → Shared → Prop} {s : Shared} {env : Env} {h₀ h : Heap} {L : Addr} {m : Str → Option Value} {tk : Nat}
def Nx5 (h₀ : Heap) (L : Addr) (s : Shared) (m : Str → Option Value) (Led : Nat → Tok → Int → List (Addr × Obj)) (x y : Str) (r : List Nat) (n : Nat) (s₂ : Shared) : Prop :=
  ∃ h' tk t pos' tp' pcn', s₂ = { s with heap := h', toks := tk } ∧ Fr h₀ L h' (fun z => if z = Str.ofString "nextchar" then some (.str y t) else m z) ∧ News h₀ L h' (Led pos' tp' pcn') ∧ x.cps.toList.drop pos' = r ∧ x.length - pos' < n
def Ln5 (h₀ : Heap) (L : Addr) (s : Shared) (m : Str → Option Value) (Led : Int → Tok → List (Addr × Obj)) (ln : Int) (s₂ : Shared) : Prop :=
  ∃ h' tk tl', s₂ = { s with heap := h', toks := tk } ∧ Fr h₀ L h' m ∧ News h₀ L h' (Led ln tl')
theorem nx5_mid {st : Stmt} {rest : List Stmt} (_ : Fr h₀ L h m) (Led : Nat → Tok → Int → List (Addr × Obj)) (x y : Str) (r : List Nat) (n : Nat)
    (h1 : wpAny (model prog w) A (exec st env) (fun f s' => match f with | .next => Nx5 h₀ L s m Led x y r n s' | f => Q f s') E { s with heap := h, toks := tk })
    (h2 : ∀ h' tk t pos' tp' pcn', Fr h₀ L h' (fun z => if z = Str.ofString "nextchar" then some (.str y t) else m z) → News h₀ L h' (Led pos' tp' pcn') → x.cps.toList.drop pos' = r → x.length - pos' < n → wpAny (model prog w) A (execs rest env) Q E { s with heap := h', toks := tk }) :
    wpAny (model prog w) A (execs (st :: rest) env) Q E { s with heap := h, toks := tk } :=
  execs_mid (Nx5 h₀ L s m Led x y r n) h1 (by
    rintro s' ⟨h', tk, t, pos', tp', pcn', rfl, a, b, c, d⟩
    exact h2 h' tk t pos' tp' pcn' a b c d)
theorem ln5_mid {st : Stmt} {rest : List Stmt} (_ : Fr h₀ L h m) (Led : Int → Tok → List (Addr × Obj)) (ln : Int)
    (h1 : wpAny (model prog w) A (exec st env) (fun f s' => match f with | .next => Ln5 h₀ L s m Led ln s' | f => Q f s') E { s with heap := h, toks := tk })
    (h2 : ∀ h' tk tl' ln2, ln2 = ln → Fr h₀ L h' m → News h₀ L h' (Led ln2 tl') → wpAny (model prog w) A (execs rest env) Q E { s with heap := h', toks := tk }) :
    wpAny (model prog w) A (execs (st :: rest) env) Q E { s with heap := h, toks := tk } :=
  execs_mid (Ln5 h₀ L s m Led ln) h1 (by
    rintro s' ⟨h', tk, tl', rfl, a, b⟩
    exact h2 h' tk tl' _ rfl a b)
end
end Mine
namespace Mine
theorem truthy_ne {prog' : Program} {w : World} {A : Around} {E : Value → Shared → Prop} {s : Shared} {y : Str} {t : Tok} {Q : Bool → Shared → Prop} (e : y.cps.toList.isEmpty = false) (hl : y.length ≤ 100000) (h : Q true { s with toks := s.toks + 1 + 1 }) : wpAny (model prog' w) A (truthy (.str y t)) Q E s := by
  refine P.truthy_str ?_ ?_
  · omega
  · have : ((y.length : Int) != 0) = true := by
      have : y.length ≠ 0 := by
        intro e'
        simp only [Str.length] at e'
        have : y.cps.toList = [] := by
          apply List.eq_nil_of_length_eq_zero
          simpa using e'
        rw [this] at e
        cases e
      simp; omega
    rw [this]; exact h
end Mine
namespace Mine
section
variable {prog' : Program} {w : World} {A : Around} {E : Value → Shared → Prop} {s : Shared} {h₀ : Heap} {L : Addr} {m : Str → Option Value} {news news' : List (Addr × Obj)} {q : Addr} {n : Int} {x : Value} {Q : Value → Shared → Prop}
theorem dq_pop1 (F : Fr h₀ L s.heap m) (N : News h₀ L s.heap news) (U : Upd q (dqO [x] n) (dqO [] (n + 1)) news news')
    (h : ∀ h', Fr h₀ L h' m → News h₀ L h' news' → Q x { s with heap := h' }) : wpAny (model prog' w) A (call (.builtin "collections.deque.pop") [.ref q]) Q E s :=
  dq_pop (vs := []) F N U (Nat.zero_le _) h
theorem dq_appendleft1 (F : Fr h₀ L s.heap m) (N : News h₀ L s.heap news) (U : Upd q (dqO [] n) (dqO [x] (n + 1)) news news')
    (h : ∀ h', Fr h₀ L h' m → News h₀ L h' news' → Q .none { s with heap := h' }) : wpAny (model prog' w) A (call (.builtin "collections.deque.appendleft") [.ref q, x]) Q E s :=
  dq_appendleft (vs := []) F N U (Nat.zero_le _) h
theorem dq_append1 (F : Fr h₀ L s.heap m) (N : News h₀ L s.heap news) (U : Upd q (dqO [] n) (dqO [x] (n + 1)) news news')
    (h : ∀ h', Fr h₀ L h' m → News h₀ L h' news' → Q .none { s with heap := h' }) : wpAny (model prog' w) A (call (.builtin "collections.deque.append") [.ref q, x]) Q E s :=
  dq_append (vs := []) F N U (Nat.zero_le _) h
end
end Mine
namespace Mine
def TN5 (h₀ : Heap) (L : Addr) (s : Shared) (m : Str → Option Value) (news : List (Addr × Obj)) (r0 r : Bool) (s' : Shared) : Prop := r = r0 ∧ ∃ h' tk, s' = { s with heap := h', toks := tk } ∧ Fr h₀ L h' m ∧ News h₀ L h' news
theorem testN {w : World} {A : Around} {E : Value → Shared → Prop} {s : Shared} {h₀ h : Heap} {L : Addr} {m : Str → Option Value} {news : List (Addr × Obj)} {tk : Nat} {test : Expr} {env : Env} {Q : Bool → Shared → Prop} {r0 : Bool} (_ : Fr h₀ L h m) (_ : News h₀ L h news)
    (h1 : wpAny (model prog w) A (isTrue test env (eval test env)) (TN5 h₀ L s m news r0) E { s with heap := h, toks := tk })
    (h2 : ∀ h' tk, Fr h₀ L h' m → News h₀ L h' news → Q r0 { s with heap := h', toks := tk }) : wpAny (model prog w) A (isTrue test env (eval test env)) Q E { s with heap := h, toks := tk } :=
  wpAny_mono h1 (fun r s' h => by obtain ⟨rfl, h', tk, rfl, a, b⟩ := h; exact h2 h' tk a b) fun _ _ e => e
end Mine

end
section
namespace Mine
/-! the lexer's dict with and without its last entry -/
def app5 (a b : List DictEntry) : List DictEntry := a ++ b
def esG (P : Params) (T : LxT) (b sp : Bool) (ev : Value) (cm wc pu : Str) (pb fs io : Addr) (f sv : Value) (ln : Int) (tl : Tok) (tk : Str) (tt : Tok) : List DictEntry := [
  ent P "instream" T.k0 (.ref io), ent P "infile" T.k1 f, ent P "posix" T.k2 (.bool b), ent P "eof" T.k3 ev, ent P "commenters" T.k4 (.str cm T.c4), ent P "wordchars" T.k5 (.str wc T.c5),
  ent P "whitespace" T.k6 (.str (Str.ofString " \t\x0d\n") T.c6), ent P "whitespace_split" T.k7 (.bool sp), ent P "quotes" T.k8 (.str (Str.ofString "'\"") T.c8), ent P "escape" T.k9 (.str (Str.ofString "\\") T.c9),
  ent P "escapedquotes" T.k10 (.str (Str.ofString "\"") T.c10), ent P "state" T.k11 sv, ent P "pushback" T.k12 (.ref pb), ent P "lineno" T.k13 (.int ln tl), ent P "debug" T.k14 (.int 0 T.c14),
  ent P "token" T.k15 (.str tk tt), ent P "filestack" T.k16 (.ref fs), ent P "source" T.k17 .none, ent P "_punctuation_chars" T.k18 (.str pu T.c18)]
/-- ex: what stands behind the written entries -/
abbrev lexG (P : Params) (T : LxT) (b sp : Bool) (ev : Value) (cm wc pu : Str) (pb fs io : Addr) (f sv : Value) (ln : Int) (tl : Tok) (tk : Str) (tt : Tok) (ex : List DictEntry) : Obj := dictOf (app5 (esG P T b sp ev cm wc pu pb fs io f sv ln tl tk tt) ex) (19 + ex.length)
def GX (P : Params) (pu : Str) (pb pc : Addr) (ex : List DictEntry) : Prop :=
  (pu = Str.ofString "" ∧ pb = pc ∧ ex = []) ∨ (pu.cps.toList.isEmpty = false ∧ pu.length ≤ 100000 ∧ ∃ k19, ex = [ent P "_pushback_chars" k19 (.ref pc)])
theorem GX.len {P : Params} {pu : Str} {pb pc : Addr} {ex : List DictEntry} (h : GX P pu pb pc ex) : ex.length ≤ 1 := by
  rcases h with ⟨_, _, rfl⟩ | ⟨_, _, _, rfl⟩ <;> simp
/-! read_token in plain words, a sign at a time -/
section
variable {z b sp : Bool} {W U C : Nat → Bool} {c q : Nat} {r tok : List Nat} {ln ln2 : Int} {R : R5}
theorem iff_t {α : Type} {c : Bool} {x y : α} (h : c = true) : (if c then x else y) = x := if_pos h
theorem iff_f {α : Type} {c : Bool} {x y : α} (h : c = false) : (if c then x else y) = y := by rw [h]; rfl
theorem w_ws (H : rt5 z b sp W U C (c :: r) .white tok ln = some R) (e : ln2 = lnp c ln) (h1 : isWs c = true) : rt5 z b sp W U C r .white tok ln2 = some R := by
  rw [re_w, iff_t h1] at H; rw [e]; exact H
theorem w_cm (H : rt5 z b sp W U C (c :: r) .white tok ln = some R) (h1 : isWs c = false) : C c = false := by
  rw [re_w, iff_f h1] at H
  cases h : C c with
  | false => rfl
  | true => rw [iff_t h] at H; cases H
theorem w_be (H : rt5 z b sp W U C (c :: r) .white tok ln = some R) (h1 : isWs c = false) : (b && isE c) = false := by
  have h2 := w_cm H h1
  rw [re_w, iff_f h1, iff_f h2] at H
  cases h : (b && isE c) with
  | false => rfl
  | true => rw [iff_t h] at H; cases H
theorem w_go (H : rt5 z b sp W U C (c :: r) .white tok ln = some R) (e : ln2 = lnp c ln) (h1 : isWs c = false) : (if W c then rt5 z b sp W U C r .word [c] ln2
    else if U c then rt5 z b sp W U C r .punct [c] ln2
    else if isQ c then rt5 z b sp W U C r (.quote c) (if b then tok else [c]) ln2
    else if sp then rt5 z b sp W U C r .word [c] ln2
    else some (.ok [c] .white r ln2 none)) = some R := by
  have h2 := w_cm H h1
  have h3 := w_be H h1
  rw [re_w, iff_f h1, iff_f h2, iff_f h3] at H; rw [e]; exact H
theorem w_W (H : rt5 z b sp W U C (c :: r) .white tok ln = some R) (e : ln2 = lnp c ln) (h1 : isWs c = false) (h2 : W c = true) : rt5 z b sp W U C r .word [c] ln2 = some R := by
  have := w_go H e h1; rw [iff_t h2] at this; exact this
theorem w_U (H : rt5 z b sp W U C (c :: r) .white tok ln = some R) (e : ln2 = lnp c ln) (h1 : isWs c = false) (h2 : W c = false) (h3 : U c = true) : rt5 z b sp W U C r .punct [c] ln2 = some R := by
  have := w_go H e h1; rw [iff_f h2, iff_t h3] at this; exact this
theorem w_Q (H : rt5 z b sp W U C (c :: r) .white tok ln = some R) (e : ln2 = lnp c ln) (h1 : isWs c = false) (h2 : W c = false) (h3 : U c = false) (h4 : isQ c = true) : rt5 z b sp W U C r (.quote c) (if b then tok else [c]) ln2 = some R := by
  have := w_go H e h1; rw [iff_f h2, iff_f h3, iff_t h4] at this; exact this
theorem w_S (H : rt5 z b true W U C (c :: r) .white tok ln = some R) (e : ln2 = lnp c ln) (h1 : isWs c = false) (h2 : W c = false) (h3 : U c = false) (h4 : isQ c = false) : rt5 z b true W U C r .word [c] ln2 = some R := by
  have := w_go H e h1; rw [iff_f h2, iff_f h3, iff_f h4] at this; exact this
theorem w_O (H : rt5 z b false W U C (c :: r) .white tok ln = some R) (e : ln2 = lnp c ln) (h1 : isWs c = false) (h2 : W c = false) (h3 : U c = false) (h4 : isQ c = false) : some (.ok [c] .white r ln2 none) = some R := by
  have := w_go H e h1; rw [iff_f h2, iff_f h3, iff_f h4] at this; exact this
theorem q_e (H : rt5 z b sp W U C (c :: r) (.quote q) tok ln = some R) (e : ln2 = lnp c ln) (h1 : (c == q) = true) : (if b then rt5 z b sp W U C r .wordq tok ln2 else some (.ok (tok ++ [c]) .white r ln2 none)) = some R := by
  rw [re_q, iff_t h1] at H; rw [e]; exact H
theorem q_t (H : rt5 z true sp W U C (c :: r) (.quote q) tok ln = some R) (e : ln2 = lnp c ln) (h1 : (c == q) = true) : rt5 z true sp W U C r .wordq tok ln2 = some R := q_e H e h1
theorem q_f (H : rt5 z false sp W U C (c :: r) (.quote q) tok ln = some R) (e : ln2 = lnp c ln) (h1 : (c == q) = true) : some (.ok (tok ++ [c]) .white r ln2 none) = some R := q_e H e h1
theorem q_b (H : rt5 z b sp W U C (c :: r) (.quote q) tok ln = some R) (e : ln2 = lnp c ln) (h1 : (c == q) = false) (h2 : (b && isE c && isD q) = true) : rt5 z b sp W U C r .esc tok ln2 = some R := by
  rw [re_q, iff_f h1, iff_t h2] at H; rw [e]; exact H
theorem q_c (H : rt5 z b sp W U C (c :: r) (.quote q) tok ln = some R) (e : ln2 = lnp c ln) (h1 : (c == q) = false) (h2 : (b && isE c && isD q) = false) : rt5 z b sp W U C r (.quote q) (tok ++ [c]) ln2 = some R := by
  rw [re_q, iff_f h1, iff_f h2] at H; rw [e]; exact H
theorem o_ws (H : rt5 z b sp W U C (c :: r) .word tok ln = some R) (e : ln2 = lnp c ln) (h1 : isWs c = true) : some (.ok tok .white r ln2 none) = some R := by
  rw [re_o, iff_t h1] at H; rw [e]; exact H
theorem o_cm (H : rt5 z b sp W U C (c :: r) .word tok ln = some R) (h1 : isWs c = false) : C c = false := by
  rw [re_o, iff_f h1] at H
  cases h : C c with
  | false => rfl
  | true => rw [iff_t h] at H; cases H
theorem o_Q (H : rt5 z b sp W U C (c :: r) .word tok ln = some R) (e : ln2 = lnp c ln) (h1 : isWs c = false) (h2 : (b && isQ c) = true) : rt5 z b sp W U C r (.quote c) tok ln2 = some R := by
  have h3 := o_cm H h1
  rw [re_o, iff_f h1, iff_f h3, iff_t h2] at H; rw [e]; exact H
theorem o_be (H : rt5 z b sp W U C (c :: r) .word tok ln = some R) (h1 : isWs c = false) (h2 : (b && isQ c) = false) : (b && isE c) = false := by
  have h3 := o_cm H h1
  rw [re_o, iff_f h1, iff_f h3, iff_f h2] at H
  cases h : (b && isE c) with
  | false => rfl
  | true => rw [iff_t h] at H; cases H
theorem o_go (H : rt5 z b sp W U C (c :: r) .word tok ln = some R) (e : ln2 = lnp c ln) (h1 : isWs c = false) (h2 : (b && isQ c) = false) : (if W c || isQ c || (sp && !U c) then rt5 z b sp W U C r .word (tok ++ [c]) ln2 else some (.ok tok .white r ln2 (some c))) = some R := by
  have h3 := o_cm H h1
  have h4 := o_be H h1 h2
  rw [re_o, iff_f h1, iff_f h3, iff_f h2, iff_f h4] at H; rw [e]; exact H
theorem o_W (H : rt5 z b sp W U C (c :: r) .word tok ln = some R) (e : ln2 = lnp c ln) (h1 : isWs c = false) (h2 : (b && isQ c) = false) (h3 : (W c || isQ c || (sp && !U c)) = true) : rt5 z b sp W U C r .word (tok ++ [c]) ln2 = some R := by
  have := o_go H e h1 h2; rw [iff_t h3] at this; exact this
theorem o_O (H : rt5 z b sp W U C (c :: r) .word tok ln = some R) (e : ln2 = lnp c ln) (h1 : isWs c = false) (h2 : (b && isQ c) = false) (h3 : (W c || isQ c || (sp && !U c)) = false) : some (.ok tok .white r ln2 (some c)) = some R := by
  have := o_go H e h1 h2; rw [iff_f h3] at this; exact this
theorem x_all (H : rt5 z b sp W U C (c :: r) .wordq tok ln = some R) (e : ln2 = lnp c ln) : isWs c = false ∧ C c = false ∧ isQ c = false ∧ b = true ∧ isE c = true ∧ rt5 z b sp W U C r .esc tok ln2 = some R := by
  rw [re_x] at H
  cases h1 : isWs c with
  | true => rw [iff_t h1] at H; cases H
  | false =>
  rw [iff_f h1] at H
  cases h2 : C c with
  | true => rw [iff_t h2] at H; cases H
  | false =>
  rw [iff_f h2] at H
  cases h3 : (b && isQ c) with
  | true => rw [iff_t h3] at H; cases H
  | false =>
  rw [iff_f h3] at H
  cases h4 : (b && isE c) with
  | false => rw [iff_f h4] at H; cases H
  | true =>
  rw [iff_t h4] at H
  obtain ⟨rfl, h5⟩ : b = true ∧ isE c = true := by simpa using h4
  rw [e]
  exact ⟨rfl, rfl, h3, rfl, h5, H⟩
theorem p_ws (H : rt5 z b sp W U C (c :: r) .punct tok ln = some R) (e : ln2 = lnp c ln) (h1 : isWs c = true) : some (.ok tok .white r ln2 none) = some R := by
  rw [re_p, iff_t h1] at H; rw [e]; exact H
theorem p_cm (H : rt5 z b sp W U C (c :: r) .punct tok ln = some R) (h1 : isWs c = false) : C c = false := by
  rw [re_p, iff_f h1] at H
  cases h : C c with
  | false => rfl
  | true => rw [iff_t h] at H; cases H
theorem p_U (H : rt5 z b sp W U C (c :: r) .punct tok ln = some R) (e : ln2 = lnp c ln) (h1 : isWs c = false) (h2 : U c = true) : rt5 z b sp W U C r .punct (tok ++ [c]) ln2 = some R := by
  have h3 := p_cm H h1
  rw [re_p, iff_f h1, iff_f h3, iff_t h2] at H; rw [e]; exact H
theorem p_O (H : rt5 z b sp W U C (c :: r) .punct tok ln = some R) (e : ln2 = lnp c ln) (h1 : isWs c = false) (h2 : U c = false) : some (.ok tok .white r ln2 (some c)) = some R := by
  have h3 := p_cm H h1
  rw [re_p, iff_f h1, iff_f h3, iff_f h2] at H; rw [e]; exact H
end
theorem le1 {l r : List Nat} {c pos : Nat} {x : Str} (hd : x.cps.toList.drop pos = r) (h : l.length + (c :: r).length ≤ 100000) : l.length + (([] : List Nat) ++ x.cps.toList.drop pos).length ≤ 100000 := by
  rw [hd]; simp only [List.nil_append, List.length_cons] at h ⊢; omega
theorem le2 {l r : List Nat} {c pos : Nat} {x : Str} (hd : x.cps.toList.drop pos = r) (h : l.length + (c :: r).length ≤ 100000) : (l ++ [c]).length + (([] : List Nat) ++ x.cps.toList.drop pos).length ≤ 100000 := by
  rw [hd]; simp only [List.nil_append, List.length_cons, List.length_append, List.length_nil] at h ⊢; omega
theorem le4 {l r : List Nat} {c : Nat} (h : l.length + (c :: r).length ≤ 100000) : l.length ≤ 100000 := by omega
theorem le5 {l r : List Nat} {c : Nat} (h : l.length + (c :: r).length ≤ 100000) : (l ++ [c]).length ≤ 100000 := by
  simp only [List.length_cons, List.length_append, List.length_nil] at h ⊢; omega
theorem mu0 {a b : Nat} : a - b < a - b + 1 := Nat.lt_succ_self _
theorem mu1 {a b : Nat} (h : b + 1 ≤ a) : a - (b + 1) < a - b + ([] : List Value).length := by simp only [List.length_nil]; omega
abbrev FrB (u m0 : Str → Option Value) (q : Bool) : Str → Option Value := kstB (fun z => if [Str.ofString "nextchar", Str.ofString "escapedstate"].contains z then u z else m0 z) [(Str.ofString "quoted", .bool q)]
def FrOk (m' m0 : Str → Option Value) (q : Bool) : Prop := m' (Str.ofString "quoted") = some (.bool q) ∧ ∀ z, z ≠ Str.ofString "quoted" → [Str.ofString "nextchar", Str.ofString "escapedstate"].contains z = false → m' z = m0 z
theorem fo_off {z : Str} (h3 : [Str.ofString "nextchar", Str.ofString "escapedstate"].contains z = false) : ¬ z = Str.ofString "nextchar" ∧ ¬ z = Str.ofString "escapedstate" :=
  ⟨fun e => by subst e; simp at h3, fun e => by subst e; simp at h3⟩
theorem qn_1 : ¬ Str.ofString "quoted" = Str.ofString "nextchar" := by decide +kernel
theorem qn_2 : ¬ Str.ofString "quoted" = Str.ofString "escapedstate" := by decide +kernel
theorem fo_0 {u m0 : Str → Option Value} {q : Bool} : FrOk (FrB u m0 q) m0 q := by
  refine ⟨by simp only [FrB, kstB, if_true], fun z h2 h3 => ?_⟩
  simp only [FrB, kstB, if_neg h2, h3, Bool.false_eq_true, if_false]
theorem fo_n {m' m0 : Str → Option Value} {q : Bool} {v : Option Value} (h : FrOk m' m0 q) : FrOk (fun z => if z = Str.ofString "nextchar" then v else m' z) m0 q :=
  ⟨(if_neg qn_1).trans h.1, fun z h2 h3 => (if_neg (fo_off h3).1).trans (h.2 z h2 h3)⟩
theorem fo_e {m' m0 : Str → Option Value} {q : Bool} {v : Option Value} (h : FrOk m' m0 q) : FrOk (fun z => if z = Str.ofString "escapedstate" then v else m' z) m0 q :=
  ⟨(if_neg qn_2).trans h.1, fun z h2 h3 => (if_neg (fo_off h3).2).trans (h.2 z h2 h3)⟩
theorem fo_q {m' m0 : Str → Option Value} {q q2 : Bool} (h : FrOk m' m0 q) : FrOk (fun z => if z = Str.ofString "quoted" then some (.bool q2) else m' z) m0 q2 :=
  ⟨if_pos rfl, fun z h2 h3 => (if_neg h2).trans (h.2 z h2 h3)⟩
section
variable {h₀ h : Heap} {L : Addr} {s : Shared} {m0 : Str → Option Value} {P Bk : LS5 → Prop} {μ : LS5 → Nat} {n : Nat} {Qv : Flow → Shared → Prop} {Led : LS5 → List (Addr × Obj)}
theorem lf_1 (c : LS5) {m' : Str → Option Value} {tk : Nat} (hQ : ∀ f s', WlPost h₀ L s Led (fun c => [(Str.ofString "quoted", .bool c.q)]) [Str.ofString "nextchar", Str.ofString "escapedstate"] m0 P Bk μ n f s' → Qv f s')
    (F : Fr h₀ L h m') (N : News h₀ L h (Led c)) (ho : FrOk m' m0 c.q) (hp : P c) (hm : μ c < n) : Qv .next { s with heap := h, toks := tk } ∧ Qv .cont { s with heap := h, toks := tk } := by
  have : WlAt h₀ L s Led (fun c => [(Str.ofString "quoted", .bool c.q)]) [Str.ofString "nextchar", Str.ofString "escapedstate"] m0 (fun c => P c ∧ μ c < n) { s with heap := h, toks := tk } :=
    wl_at c F N (fun p hp => hp) (fun p hp => by rw [List.mem_singleton.mp hp]; exact ho.1) (fun z h2 h3 => ho.2 z (h2 _ (.head _)) h3) ⟨hp, hm⟩
  exact ⟨hQ _ _ this, hQ _ _ this⟩
theorem lf_2 (c : LS5) {m' : Str → Option Value} {tk : Nat} (hQ : ∀ f s', WlPost h₀ L s Led (fun c => [(Str.ofString "quoted", .bool c.q)]) [Str.ofString "nextchar", Str.ofString "escapedstate"] m0 P Bk μ n f s' → Qv f s')
    (F : Fr h₀ L h m') (N : News h₀ L h (Led c)) (ho : FrOk m' m0 c.q) (hp : Bk c) : Qv .brk { s with heap := h, toks := tk } :=
  hQ .brk _ (wl_at c F N (fun p hp => hp) (fun p hp => by rw [List.mem_singleton.mp hp]; exact ho.1) (fun z h2 h3 => ho.2 z (h2 _ (.head _)) h3) hp)
end
theorem emp_S : (Str.ofString "").cps.toList.isEmpty = true := by decide +kernel
theorem contains_ne {l : List Nat} {c : Nat} (h : l.contains c = true) : l.isEmpty = false := by
  cases l with
  | nil => cases h
  | cons _ _ => rfl
theorem getL_app {name : Str} {es ex : List DictEntry} {v : Value} (h : getL name es = some (some v)) : getL name (app5 es ex) = some (some v) := by
  unfold getL app5 at *
  rw [List.find?_append]
  cases e : es.find? (·.key.isStr name) with
  | some a => rw [e] at h; exact h
  | none =>
    rw [e] at h
    dsimp only at h
    split at h <;> cases h
theorem any_found {name : Str} {es : List DictEntry} {v : Value} (h : getL name es = some (some v)) : es.any (·.key.isStr name) = true := by
  unfold getL at h
  cases e : es.find? (·.key.isStr name) with
  | some a =>
    have := List.find?_some e
    exact List.any_eq_true.mpr ⟨a, List.mem_of_find?_eq_some e, this⟩
  | none =>
    rw [e] at h
    dsimp only at h
    split at h <;> cases h
theorem putL_app {name : Str} {hs : Int} {k v : Value} {ex : List DictEntry} : ∀ {es : List DictEntry}, es.any (·.key.isStr name) = true → putL name hs k v (app5 es ex) = app5 (putL name hs k v es) ex
  | [], h => by cases h
  | e :: r, h => by
    show (if e.key.isStr name then _ else _) = app5 (if e.key.isStr name then _ else _) ex
    cases he : e.key.isStr name with
    | true => simp [app5]
    | false =>
      have h2 : r.any (·.key.isStr name) = true := by simpa [he] using h
      simp only [Bool.false_eq_true, if_false]
      show e :: putL name hs k v (app5 r ex) = _
      rw [putL_app h2]
      rfl
section
variable {w : World} {A : Around} {E : Value → Shared → Prop} {s : Shared} {K : Frag} {x C dx L : Addr} {h₀ : Heap} {m : Str → Option Value} {news news' : List (Addr × Obj)} {ox : Obj} {es es' ex : List DictEntry} {name : Str} {v v0 : Value}
theorem get_own5 {expr : Bool} {Q : Value → Shared → Prop} {attr : Option Value} (F : Fr h₀ L s.heap m) (X₀ : K.In h₀) (I : InstAt s.heap x ox C (some (dictOf (app5 es ex) (19 + ex.length)))) (hg : plainGet K C name = true) (hh : hasDictIn K C = true)
    (ha : findIn K (.ref C) name = some attr) (hn : noGet K attr = true) (hl : getL name es = some (some v)) (hv : handedIn v = true) (h : Q v { s with toks := s.toks + 1 }) :
    wpAny (model prog w) A (getAttr (.ref x) name expr) Q E s := get_own F X₀ I hg hh ha hn (getL_app hl) hv h
theorem set_dict5 {Q : Unit → Shared → Prop} (F : Fr h₀ L s.heap m) (X₀ : K.In h₀) (N : News h₀ L s.heap news) (I : InstAt s.heap x ox C (some (dictOf (app5 es ex) (19 + ex.length)))) (hd : ox.dict = some dx)
    (hs : findIn K (.ref C) "__setattr__" = some (some (.builtin "object.__setattr__"))) (hp : plainOver K C = true) (ht : takerIn K C name = some none) (hh : hasDictIn K C = true) (hl : getL name es = some (some v0))
    (e : (putL name (PyData.keyHash w.params name) (.str name (s.toks + 1)) v es, putN name es 19) = (es', 19)) (U : Upd dx (dictOf (app5 es ex) (19 + ex.length)) (dictOf (app5 es' ex) (19 + ex.length)) news news') (hz : es'.length ≤ 900) (hex : ex.length ≤ 1)
    (h : ∀ h' k, Fr h₀ L h' m → News h₀ L h' news' → Q () { s with heap := h', toks := k }) :
    wpAny (model prog w) A (setAttr (.ref x) name v) Q E s := by
  have ha := any_found hl
  obtain ⟨e1, _⟩ := Prod.mk.inj e
  refine set_dict (es' := app5 es' ex) (n' := 19 + ex.length) F X₀ N I hd hs hp ht hh (by rw [getL_app hl]; rfl) ?_ U ?_ (fun h' => h h' _)
  · rw [putL_app ha, e1]
    have : putN name (app5 es ex) (19 + ex.length) = 19 + ex.length := by
      unfold putN app5
      rw [List.any_append, ha]; rfl
    rw [this]
  · show (es' ++ ex).length ≤ 1000
    rw [List.length_append]; omega
end
theorem put_sv {P : Params} {T : LxT} {b sp : Bool} {ev : Value} {cm wc pu : Str} {pb fs io : Addr} {f sv : Value} {ln : Int} {tl : Tok} {tk : Str} {tt : Tok} {h : Int} {key : Value} {v : Value} : (putL (Str.ofString "state") h key v (esG P T b sp ev cm wc pu pb fs io f sv ln tl tk tt), putN (Str.ofString "state") (esG P T b sp ev cm wc pu pb fs io f sv ln tl tk tt) 19) = (esG P T b sp ev cm wc pu pb fs io f v ln tl tk tt, 19) := by k_put
theorem put_tk {P : Params} {T : LxT} {b sp : Bool} {ev : Value} {cm wc pu : Str} {pb fs io : Addr} {f sv : Value} {ln : Int} {tl : Tok} {tk : Str} {tt : Tok} {h : Int} {key : Value} {y : Str} {u : Tok} : (putL (Str.ofString "token") h key (.str y u) (esG P T b sp ev cm wc pu pb fs io f sv ln tl tk tt), putN (Str.ofString "token") (esG P T b sp ev cm wc pu pb fs io f sv ln tl tk tt) 19) = (esG P T b sp ev cm wc pu pb fs io f sv ln tl y u, 19) := by k_put
theorem put_ln {P : Params} {T : LxT} {b sp : Bool} {ev : Value} {cm wc pu : Str} {pb fs io : Addr} {f sv : Value} {ln : Int} {tl : Tok} {tk : Str} {tt : Tok} {h : Int} {key : Value} {n2 : Int} {u : Tok} : (putL (Str.ofString "lineno") h key (.int n2 u) (esG P T b sp ev cm wc pu pb fs io f sv ln tl tk tt), putN (Str.ofString "lineno") (esG P T b sp ev cm wc pu pb fs io f sv ln tl tk tt) 19) = (esG P T b sp ev cm wc pu pb fs io f sv n2 u tk tt, 19) := by k_put
end Mine

end
section
namespace Mine
section
variable {w : World} {A₀ : Around} {base h₀ : Heap} {outer : List Env} {L : Addr} {m mg mb : Str → Option Value} {loose : List Str} {mean : ExcName → Option Value} {s : Shared} {Q E : Value → Shared → Prop} {p : Program}
  {hdl : Option Value} {d u : Nat} {gs : Option (List Code)} {rest : List (Addr × Obj)} {ns : List (Str × NameKind)} {ig ic : Bool} {mo : List (Str × Const)} {gl bi : Addr} {cs : List (Str × Addr)} {qn : Str} {fo : Option Addr} {cdv : Value}
theorem read1_end {h' : Heap} {io iod : Addr} {x y : Str} {pos : Nat} {q : Int} {kt : IoT} {t t' k : Tok}
  (hR : ∀ h' t t' k, Fr h₀ L h' m → News h₀ L h' ((io, instObj 587 iod) :: (iod, ioD w.params kt x (if pos < x.length then pos + 1 else pos) t') :: rest) → Q (.str (ch1 x pos) t) { s with heap := h', toks := k })
  (e1 : y = ch1 x pos) (e2 : q = ((if pos < x.length then pos + 1 else pos : Nat) : Int)) (F : Fr h₀ L h' m)
  (N : News h₀ L h' ((io, instObj 587 iod) :: (iod, dictOf [ent w.params "_StringIO__newline" kt.a (.str (Str.ofString "\n") kt.b), ent w.params "_StringIO__buf" kt.c (.str x kt.d), ent w.params "_StringIO__pos" kt.e (.int q t')] 3) :: rest)) :
  Q (.str y t) { s with heap := h', toks := k } := by
  subst e1 e2
  exact hR h' t t' k F N
theorem read1 {io iod : Addr} {x : Str} {pos : Nat} {kt : IoT} {t2 tk : Tok}
  (B : Below A₀ base outer h₀) (F : Fr h₀ L s.heap m) (X : (hd.heap_1 w.params).In h₀) (T : Top p loose mean mg mb h₀) (hdp : d < 980) (hun : u < 9800)
  (hio : @LT.lt Nat _ iod io) (hx : x.length ≤ 100000) (hrest : ∀ p ∈ rest, p.1 ≠ iod)
  (N : News h₀ L s.heap ((io, instObj 587 iod) :: (iod, ioD w.params kt x pos t2) :: rest))
  (hR : ∀ h' t t' k, Fr h₀ L h' m → News h₀ L h' ((io, instObj 587 iod) :: (iod, ioD w.params kt x (if pos < x.length then pos + 1 else pos) t') :: rest) → Q (.str (ch1 x pos) t) { s with heap := h', toks := k })
  : wpAny (model prog w) (ar hdl d (fenv ns ig ic mo gl cs qn fo cdv bi L :: outer) gs u) (call (.ref 533) [.ref io, .int 1 tk]) Q E s := by
  refine wpAny_call ?_
  k_enter
  k_steps
  · have e := ch1_over (x := x) (pos := pos) (by assumption)
    refine read1_end hR e.symm ?_ (by assumption) (by assumption)
    rw [if_neg (by omega)]
  · refine read1_end hR (ch1_end rfl ?_ (by omega)) ?_ (by assumption) (by assumption)
    · rw [if_pos (by omega)]
    · rw [if_pos (by omega)]; omega
  · refine read1_end hR (ch1_end rfl ?_ (by omega)) ?_ (by assumption) (by assumption)
    · rw [if_neg (by omega)]
    · rw [if_pos (by omega)]; omega
theorem read_c {io iod : Addr} {x : Str} {pos c : Nat} {r : List Nat} {kt : IoT} {t2 tk : Tok}
  (B : Below A₀ base outer h₀) (F : Fr h₀ L s.heap m) (X : (hd.heap_1 w.params).In h₀) (T : Top p loose mean mg mb h₀) (hdp : d < 980) (hun : u < 9800)
  (hio : @LT.lt Nat _ iod io) (hx : x.length ≤ 100000) (hrest : ∀ p ∈ rest, p.1 ≠ iod) (hc : x.cps.toList.drop pos = c :: r)
  (N : News h₀ L s.heap ((io, instObj 587 iod) :: (iod, ioD w.params kt x pos t2) :: rest))
  (hR : ∀ h' t t' k, Fr h₀ L h' m → News h₀ L h' ((io, instObj 587 iod) :: (iod, ioD w.params kt x (pos + 1) t') :: rest) → Q (.str ⟨#[c]⟩ t) { s with heap := h', toks := k })
  : wpAny (model prog w) (ar hdl d (fenv ns ig ic mo gl cs qn fo cdv bi L :: outer) gs u) (call (.ref 533) [.ref io, .int 1 tk]) Q E s := by
  have hl : pos < x.length := by
    have h := congrArg List.length hc
    simp [Str.length] at h ⊢
    omega
  have e : ch1 x pos = ⟨#[c]⟩ := by unfold ch1; rw [hc]; rfl
  refine read1 B F X T hdp hun hio hx hrest N fun h' t t' k F' N' => ?_
  rw [if_pos hl] at N'
  rw [e]
  exact hR h' t t' k F' N'
theorem read_e {io iod : Addr} {x : Str} {pos : Nat} {kt : IoT} {t2 tk : Tok}
  (B : Below A₀ base outer h₀) (F : Fr h₀ L s.heap m) (X : (hd.heap_1 w.params).In h₀) (T : Top p loose mean mg mb h₀) (hdp : d < 980) (hun : u < 9800)
  (hio : @LT.lt Nat _ iod io) (hx : x.length ≤ 100000) (hrest : ∀ p ∈ rest, p.1 ≠ iod) (hc : x.cps.toList.drop pos = [])
  (N : News h₀ L s.heap ((io, instObj 587 iod) :: (iod, ioD w.params kt x pos t2) :: rest))
  (hR : ∀ h' t t' k, Fr h₀ L h' m → News h₀ L h' ((io, instObj 587 iod) :: (iod, ioD w.params kt x pos t') :: rest) → Q (.str (Str.ofString "") t) { s with heap := h', toks := k })
  : wpAny (model prog w) (ar hdl d (fenv ns ig ic mo gl cs qn fo cdv bi L :: outer) gs u) (call (.ref 533) [.ref io, .int 1 tk]) Q E s := by
  have hl : ¬ pos < x.length := by
    have h := congrArg List.length hc
    simp [Str.length] at h ⊢
    omega
  have e := ch1_over (x := x) (pos := pos) (by omega)
  refine read1 B F X T hdp hun hio hx hrest N fun h' t t' k F' N' => ?_
  rw [if_neg hl] at N'
  rw [e]
  exact hR h' t t' k F' N'
theorem read_c5 {io iod : Addr} {x : Str} {pos c : Nat} {r : List Nat} {kt : IoT} {t2 tk : Tok}
  (N : News h₀ L s.heap ((io, instObj 587 iod) :: (iod, ioD w.params kt x pos t2) :: rest)) (hc : x.cps.toList.drop pos = c :: r)
  (B : Below A₀ base outer h₀) (F : Fr h₀ L s.heap m) (X : (hd.heap_1 w.params).In h₀) (T : Top p loose mean mg mb h₀) (hdp : d < 980) (hun : u < 9800)
  (hio : @LT.lt Nat _ iod io) (hx : x.length ≤ 100000) (hrest : ∀ p ∈ rest, p.1 ≠ iod)
  (hR : ∀ h' t t' k, Fr h₀ L h' m → News h₀ L h' ((io, instObj 587 iod) :: (iod, ioD w.params kt x (pos + 1) t') :: rest) → Q (.str ⟨#[c]⟩ t) { s with heap := h', toks := k })
  : wpAny (model prog w) (ar hdl d (fenv ns ig ic mo gl cs qn fo cdv bi L :: outer) gs u) (call (.ref 533) [.ref io, .int 1 tk]) Q E s := read_c B F X T hdp hun hio hx hrest hc N hR
theorem read_e5 {io iod : Addr} {x : Str} {pos : Nat} {kt : IoT} {t2 tk : Tok}
  (N : News h₀ L s.heap ((io, instObj 587 iod) :: (iod, ioD w.params kt x pos t2) :: rest)) (hc : x.cps.toList.drop pos = [])
  (B : Below A₀ base outer h₀) (F : Fr h₀ L s.heap m) (X : (hd.heap_1 w.params).In h₀) (T : Top p loose mean mg mb h₀) (hdp : d < 980) (hun : u < 9800)
  (hio : @LT.lt Nat _ iod io) (hx : x.length ≤ 100000) (hrest : ∀ p ∈ rest, p.1 ≠ iod)
  (hR : ∀ h' t t' k, Fr h₀ L h' m → News h₀ L h' ((io, instObj 587 iod) :: (iod, ioD w.params kt x pos t') :: rest) → Q (.str (Str.ofString "") t) { s with heap := h', toks := k })
  : wpAny (model prog w) (ar hdl d (fenv ns ig ic mo gl cs qn fo cdv bi L :: outer) gs u) (call (.ref 533) [.ref io, .int 1 tk]) Q E s := read_e B F X T hdp hun hio hx hrest hc N hR
end
end Mine

end
section
namespace Mine
section
variable {w : World} {A : Around} {s : Shared} {R : Result → Shared → Prop}
theorem io_new (X : (hd.heap_1 w.params).In s.heap) (hq : R (.ok (.ret (.ref (s.heap.objs.size + 1)))) { s with heap := (s.heap.push emptyDict).push (instObj 587 s.heap.objs.size) }) :
    codeAny (model prog w) A (.call (.builtin "object.__new__") ⟨[.ref 587], []⟩) R s := by
  obtain ⟨h, g, d, t, os⟩ := s
  have hC := X 587 _ (by k_is)
  have F := PySem.F.objNew
  have here : Looks (model prog w) h (Bind.madeHere "object.__new__" (.ref 587)) () := Looks.of_peek X (by kernel_rfl)
  have self : Looks (model prog w) h (isSubtype (.ref 587) (.ref 587)) true := looks_subIn X (by k_is)
  have top : Looks (model prog w) h (isSubtype (.ref 587) (.type "object")) true := looks_subIn X (by k_is)
  have typ : Looks (model prog w) h (isInstance (.ref 587) (.type "type")) true := looks_instIn X (by k_is)
  have chk : Looks (model prog w) h (checkBuiltinCall "object.__new__" ⟨[.ref 587], []⟩) () := Looks.of_peek X (by kernel_rfl)
  refine codeAny_call_builtin_code (Code.quiet_builtin _ F.quiet) (chk.here ?_)
  refine codeAny_builtin F.entry ?_
  unfold Builtin.«object.__new__»
  have fin : ∀ A', wpAny (model prog w) A' (do
      let d ← if typeHasDict (.ref 587) then some <$> alloc { cls := .type "dict", data := .dict #[] } else pure none
      ret (← newObj (.ref 587) .plain d)) (fun fin s' => match fin with | .done f => R (.ok f) s' | .again c' => c'.quiet = true ∧ codeAny (model prog w) A c' R s') (fun e s' => R (.error e) s') ⟨h, g, d, t, os⟩ := by
    intro A'
    show wpAny _ _ ((alloc emptyDict >>= fun x => pure (some x)) >>= _) _ _ _
    refine wpAny_bind (wpAny_bind (wpAny_alloc (wpAny_pure (wpAny_bind ?_))))
    show wpAny _ _ (newObjAsIs _ _ _) _ _ _
    unfold newObjAsIs classHasDel
    refine wpAny_bind (wpAny_alloc (wpAny_bind (wpAny_bind (wpAny_load (Heap.get?_push_of_some _ (Heap.get?_push_of_some _ hC)) (wpAny_pure ?_)))))
    refine wpAny_pure (wpAny_pure ?_)
    show R _ _
    rw [Heap.size_push]
    exact hq
  repeat (first | simp only [Bool.false_eq_true, if_false] | exact fin _ | lk)
  all_goals trace_state
end
section
variable {w : World} {A : Around} {E : Value → Shared → Prop} {s : Shared} {h₀ : Heap} {L : Addr} {m : Str → Option Value} {news : List (Addr × Obj)}
theorem io_new_w {Q : Value → Shared → Prop} (F : Fr h₀ L s.heap m) (X : (hd.heap_1 w.params).In h₀) (N : News h₀ L s.heap news)
    (h : ∀ x dx h', Fr h₀ L h' m → News h₀ L h' ((x, instObj 587 dx) :: (dx, dictOf [] 0) :: news) → (∀ p ∈ news, p.1 < dx) → dx < x → Q (.ref x) { s with heap := h' }) :
    wpAny (model prog w) A (call (.builtin "object.__new__") [.ref 587]) Q E s := by
  refine wpAny_call (io_new (X.keeps F.keep) ?_)
  have := (N.push F emptyDict).push (F.push _) (instObj 587 s.heap.objs.size)
  rw [Heap.size_push] at this
  exact h _ s.heap.objs.size _ ((F.push _).push _) this (fun p hp => Heap.lt_size (N p hp).1) (Nat.lt_succ_self _)
end
end Mine
namespace Mine
section
variable {w : World} {A₀ : Around} {base h₀ : Heap} {outer : List Env} {L : Addr} {m mg mb : Str → Option Value} {loose : List Str} {mean : ExcName → Option Value} {s : Shared} {Q E : Value → Shared → Prop} {p : Program}
  {hdl : Option Value} {d u : Nat} {gs : Option (List Code)} {rest : List (Addr × Obj)} {ns : List (Str × NameKind)} {ig ic : Bool} {mo : List (Str × Const)} {gl bi : Addr} {cs : List (Str × Addr)} {qn : Str} {fo : Option Addr} {cdv : Value}
theorem news_drop2 {h₀ h : Heap} {L : Addr} {a b c d : Addr × Obj} {rest : List (Addr × Obj)} (N : News h₀ L h (a :: b :: c :: d :: rest)) : News h₀ L h (a :: b :: rest) := by
  intro q hq
  refine N q ?_
  rcases List.mem_cons.mp hq with rfl | hq
  · exact .head _
  · rcases List.mem_cons.mp hq with rfl | hq
    · exact .tail _ (.head _)
    · exact .tail _ (.tail _ (.tail _ (.tail _ hq)))
theorem io_make {x : Str} {tk : Tok}
  (B : Below A₀ base outer h₀) (F : Fr h₀ L s.heap m) (X : (hd.heap_1 w.params).In h₀) (T : Top p loose mean mg mb h₀) (hdp : d < 980) (hun : u < 9800)
  (hx : x.length ≤ 100000)
  (N : News h₀ L s.heap rest)
  (hQ : ∀ io iod h' kt t k, Fr h₀ L h' m → News h₀ L h' ((io, instObj 587 iod) :: (iod, ioD w.params kt x 0 t) :: rest) → AllLt iod rest → @LT.lt Nat _ iod io → Q (.ref io) { s with heap := h', toks := k })
  : wpAny (model prog w) (ar hdl d (fenv ns ig ic mo gl cs qn fo cdv bi L :: outer) gs u) (call (.ref 587) [.str x tk]) Q E s := by
  have XS := X.keeps F.keep
  have hC := XS 587 _ (by k_is)
  have typ : Looks (model prog w) s.heap (isInstance (.ref 587) (.type "type")) true := looks_instIn XS (by k_is)
  have cl : Looks (model prog w) s.heap (specialOf (.ref 587) "__call__") (some (.builtin "type.__call__")) := looks_specialIn XS (by k_is)
  have made : Looks (model prog w) s.heap (Bind.madeBy (.ref 587)) none := Looks.of_peek XS (by kernel_rfl)
  have mro : Looks (model prog w) s.heap (mroOf (.ref 587)) [.ref 587, .ref 110, .ref 83, .type "object"] := Looks.of_peek XS (by kernel_rfl)
  refine wpAny_call (codeAny_of_tree ?_)
  show wpAny _ _ (callAny (.ref 587) _) _ _ _
  refine nd_load hC ?_
  show wpAny _ _ (callAny.viaDunder (.ref 587) _) _ _ _
  unfold callAny.viaDunder
  refine wpAny_bind (cl.here ?_)
  dsimp only
  rw [tc_bind]
  refine wpAny_bind (wpAny_pure (wpAny_bind (wpAny_pure ?_)))
  refine wpAny_pure (a := Fin.again (.call (.builtin "type.__call__") ⟨[.ref 587, .str x tk], []⟩)) (And.intro rfl ?_)
  refine codeAny_call_builtin_at (Code.quiet_builtin _ (by decide +kernel)) entry_typeCall (check_slot tc_kind tc_split typ (tc_args _ _ _) ?_)
  unfold Builtin.«type.__call__»
  refine wpAny_bind (mro.here ?_)
  simp only [List.isEmpty_cons, Bool.false_eq_true, if_false]
  refine wpAny_bind (made.here ?_)
  dsimp only
  refine wpAny_bind ?_
  walk1
  refine wpAny_bind (wpAny_holding ?_)
  (repeat' (first | (k_unfold; (try dsimp only)) | ((fail_if_success (with_reducible show wpAny _ _ (call (Value.builtin "object.__new__") _) _ _ _)); walk1)))
  k_dflt (refine' Mine.io_new_w ?k1 ?k2 ?k3 ?_; (case k1 => k_asm); (case k2 => k_asm); (case k3 => k_asm); k_whole)
  intro x' d' h' F' N' l1 l2
  (try k_lt l1)
  (try k_lt2 l2)
  (try k_sweep)
  k_steps
  rename Fr h₀ L _ m => kF
  rename News h₀ L _ _ => kN
  rename (hd.heap_1 w.params).In h₀ => _X2
  have XS2 := X.keeps kF.keep
  have I := InstAt.of_news (C := 587) kN (List.Mem.head _) (List.Mem.tail _ (List.Mem.head _))
  have sub : Looks (model prog w) _ (isSubtype (.ref 587) (.ref 587)) true := looks_subIn XS2 (by k_is)
  refine wpAny_bind ?_
  unfold isInstance
  refine wpAny_bind (I.type.here (sub.here ?_))
  simp only [Bool.not_true, Bool.false_eq_true, if_false]
  refine wpAny_bind (wpAny_holding (special_fn XS2 I (by k_is) (by k_is) ?_))
  k_steps
  rw [if_neg (by decide)]
  refine wpAny_pure ?_
  rename News h₀ L _ _ => kN2
  rename Fr h₀ L _ m => kF2
  rename _ ∧ _ ∧ _ => hl
  exact hQ _ _ _ ⟨_, _, _, _, _⟩ _ _ kF2 (news_drop2 kN2) hl.2.2 (by assumption)
end
end Mine

end
section
namespace Mine
/-! dict.fromkeys of a text, str.maketrans of that, str.translate by that -/
def Kp (h h' : Heap) : Prop := ∀ b o, h.get? b = some o → h'.get? b = some o
theorem Kp.but {g h h' : Heap} {a : Addr} (k : Kp g h) (hs : Heap.SameBut a h h') (ha : g.get? a = none) : Kp g h' := fun b o e => by
  have : b ≠ a := by intro z; subst z; rw [ha] at e; cases e
  exact (hs.2 b this).trans (k b o e)
theorem Kp.ext {g h h' : Heap} {a : Addr} (k : Kp g h) (hs : Heap.ExtBut a h h') (ha : g.get? a = none) : Kp g h' := fun b o e => by
  have : b ≠ a := by intro z; subst z; rw [ha] at e; cases e
  exact hs b o this (k b o e)
theorem get_ge {h : Heap} {a : Addr} (e : h.objs.size ≤ a) : h.get? a = none := by
  cases q : h.get? a with
  | none => rfl
  | some o => exact absurd (Heap.lt_size q) (Nat.not_lt.mpr e)
def FK (l : List Nat) (kvs : List (Str × Value)) : Prop := (∀ p ∈ kvs, p.2 = .none ∧ ∃ c ∈ l, p.1 = ⟨#[c]⟩) ∧ (∀ c ∈ l, ∃ p ∈ kvs, p.1 = ⟨#[c]⟩) ∧ kvs.length ≤ l.length
theorem FK.step {l : List Nat} {kvs : List (Str × Value)} {c : Nat} (h : FK l kvs) : FK (l ++ [c]) (stored kvs ⟨#[c]⟩ .none) := by
  unfold stored
  obtain ⟨h1, h2, h3⟩ := h
  split
  · rename_i ha
    refine ⟨?_, ?_, by simp; omega⟩
    · intro p hp
      obtain ⟨q, hq, rfl⟩ := List.mem_map.mp hp
      obtain ⟨a, c', hc', b⟩ := h1 q hq
      split
      · exact ⟨rfl, c', List.mem_append_left _ hc', b⟩
      · exact ⟨a, c', List.mem_append_left _ hc', b⟩
    · intro c' hc'
      rcases List.mem_append.mp hc' with h | h
      · obtain ⟨p, hp, e⟩ := h2 c' h
        refine ⟨_, List.mem_map.mpr ⟨p, hp, rfl⟩, ?_⟩
        split <;> exact e
      · rw [List.mem_singleton.mp h]
        obtain ⟨p, hp, e⟩ := List.any_eq_true.mp ha
        refine ⟨_, List.mem_map.mpr ⟨p, hp, rfl⟩, ?_⟩
        have := of_decide_eq_true e
        split <;> exact this
  · refine ⟨?_, ?_, by simp; omega⟩
    · intro p hp
      rcases List.mem_append.mp hp with h | h
      · obtain ⟨a, c', hc', b⟩ := h1 p h
        exact ⟨a, c', List.mem_append_left _ hc', b⟩
      · rw [List.mem_singleton.mp h]
        exact ⟨rfl, c, by simp, rfl⟩
    · intro c' hc'
      rcases List.mem_append.mp hc' with h | h
      · obtain ⟨p, hp, e⟩ := h2 c' h
        exact ⟨p, List.mem_append_left _ hp, e⟩
      · rw [List.mem_singleton.mp h]
        exact ⟨_, List.mem_append_right _ (.head _), rfl⟩
theorem fk_loop_entry : entryFor table "dict.fromkeys.loop" = some Builtin.«dict.fromkeys.loop» := entryFor_of_tree (by kernel_rfl)
theorem fk_loop_plain : plainId "dict.fromkeys.loop" = true := by decide +kernel
section
variable {w : World} {A : Around} {E : Value → Shared → Prop} {s : Shared}
theorem fk_size {l : List Nat} {n i : Nat} {kvs : List (Str × Value)} (h : kvs.length ≤ (l.take i).length) (hl : l.length ≤ 100) : kvs.length ≤ sizeLine := by
  have hz : sizeLine ≥ 1000 := by decide +kernel
  have h2 : (l.take i).length ≤ l.length := by simp; omega
  omega
theorem fk_loop {x : Str} {t : Tok} {D I : Addr} {R : Result → Shared → Prop} (hh : A.handled = none) (hDI : D ≠ I) (hl : x.cps.size ≤ 100) (g : Heap) (hD : g.get? D = none) (hI : g.get? I = none)
  (hR : ∀ h' tk kvs, Kp g h' → h'.DictOf (strKind prog w) D kvs → FK x.cps.toList kvs → R (.ok (.ret (.ref D))) { s with heap := h', toks := tk }) :
  ∀ (k i : Nat) (kvs : List (Str × Value)) (h : Heap) (tk : Nat), i + k = x.cps.size → Kp g h → h.DictOf (strKind prog w) D kvs → h.IsStrIter I "str_ascii_iterator" x t i → FK (x.cps.toList.take i) kvs →
    codeAny (model prog w) A (.builtin "dict.fromkeys.loop" ⟨[.ref D, .ref I, .none], []⟩) R { s with heap := h, toks := tk } := by
  intro k
  induction k with
  | zero =>
    intro i kvs h tk hi hk hd hit hf
    refine codeAny_builtin fk_loop_entry ?_
    rw [Around.under_plainId fk_loop_plain _]
    show wpAny _ A.in1 (pyNext (.ref I) >>= _) _ _ _
    refine wpAny_bind (wpAny_pyNext_ascii_end hh hit (by simp; omega) fun h' hs' => ?_)
    refine wpAny_pure ?_
    refine hR h' tk kvs (hk.ext hs' hI) (hd.extBut hs' hDI) ?_
    rw [List.take_of_length_le (by simp; omega)] at hf
    exact hf
  | succ k ih =>
    intro i kvs h tk hi hk hd hit hf
    have hlt : i < x.cps.size := by omega
    have hx : x.cps[i]? = some x.cps[i] := by simp [hlt]
    refine codeAny_builtin fk_loop_entry ?_
    rw [Around.under_plainId fk_loop_plain _]
    show wpAny _ A.in1 (pyNext (.ref I) >>= _) _ _ _
    refine wpAny_bind (wpAny_pyNext_ascii_item hit hx fun h' hit' hs' => ?_)
    have hd' := hd.sameBut hs' hDI
    have hk' := hk.but hs' hI
    dsimp only
    refine wpAny_bind (wpAny_typeOf (hd'.mapOf.typeIs) ?_)
    refine wpAny_bind (wpAny_of_eq (a := D) rfl ?_)
    refine wpAny_bind (wpAny_holding (wpAny_dictSet_pairs (knd := strKind prog w) (k := ⟨#[x.cps[i]]⟩) (strKind_is _ _ _ _) hd' (fun h2 hd2 hs2 => ?_) (fk_size (n := 0) hf.2.2 (by simpa using hl))))
    refine wpAny_pure ⟨plainId_quiet fk_loop_plain _, ?_⟩
    refine ih (i + 1) _ h2 _ (by omega) (hk'.but hs2 hD) hd2 ?_ ?_
    · obtain ⟨o, ho, r⟩ := hit'
      exact ⟨o, (hs2.2 I (Ne.symm hDI)).trans ho, r⟩
    · have e : x.cps.toList.take (i + 1) = x.cps.toList.take i ++ [x.cps[i]] := by
        rw [List.take_add_one]
        congr 1
        simp [hlt]
      rw [e]
      exact hf.step
theorem fk_typeCall : checkTypeCall "dict" ⟨[], []⟩ = pure () := by kernel_rfl
theorem fk_newCall : checkBuiltinCall "dict.__new__" ⟨[.type "dict"], []⟩ = pure () := by kernel_rfl
theorem fk_args_init (a : Value) : argsOk "dict.__init__" ⟨[a], []⟩ := by first | exact F.args_dict_init_1 _ | (unfold argsOk; kernel_rfl)
theorem fk_code_new {Q₁ : Value → Shared → Prop} (h : Q₁ (.ref s.heap.objs.size) { s with heap := s.heap.push { cls := .type "dict", data := .dict #[] } }) :
    codeAny (model prog w) A (.call (.builtin "dict.__new__") ⟨[.type "dict"], []⟩) (wants Q₁ E) s := by
  refine codeAny_call_builtin F.kt_plain_dict_new F.kt_entry_dict_new (wpAny_of_eq fk_newCall ?_)
  have hsub := F.kt_sub_dict
  have hmro := F.kt_mro_dict
  obtain ⟨hp, g, d, tk, os⟩ := s
  unfold Builtin.«dict.__new__»
  wp_walk
  exact h
theorem fk_dict0 {K : Type} [DecidableEq K] {knd : KeyKind prog w K} {Q : Value → Shared → Prop}
    (h : (s.heap.push { cls := .type "dict", data := .dict #[] }).DictOf knd s.heap.objs.size [] → Q (.ref s.heap.objs.size) { s with heap := s.heap.push { cls := .type "dict", data := .dict #[] } }) :
    wpAny (model prog w) A (call (.type "dict") []) Q E s := by
  refine callType_codes (Q₁ := fun obj s₁ => obj = .ref s.heap.objs.size ∧ s₁ = { s with heap := s.heap.push { cls := .type "dict", data := .dict #[] } }) F.kt_called_dict fk_typeCall F.entry_dict_init (fk_code_new ⟨rfl, rfl⟩) ?_
  rintro obj s₁ ⟨rfl, rfl⟩
  have hnew : (s.heap.push { cls := .type "dict", data := .dict #[] }).DictOf knd s.heap.objs.size [] := Heap.DictOf.new s.heap
  refine ⟨hnew.mapOf.typeIs, fk_args_init _, ?_⟩
  unfold Builtin.«dict.__init__»
  refine wpAny_bind ?_
  unfold Builtin.Dict.selfAndRest
  refine wpAny_bind (wpAny_notOrdered_dict hnew.mapOf.typeIs ?_)
  show wpAny _ _ (pure (s.heap.objs.size, [])) _ _ _
  refine wpAny_pure ?_
  show wpAny _ _ (Builtin.Dict.updateCommon "dict.__init__" "dict" s.heap.objs.size [] []) _ _ _
  unfold Builtin.Dict.updateCommon
  wp_walk
  exact ⟨rfl, h hnew⟩
theorem fk_sub : isSubtype (.type "dict") (.type "dict") = pure true := by rw [isSubtype_type]; kernel_rfl
theorem fk_isType : isType (.type "dict") = pure true := by first | rfl | kernel_rfl | (unfold isType; rw [isSubtype_type]; kernel_rfl)
theorem fk_entry : entryFor table "dict.fromkeys" = some Builtin.«dict.fromkeys» := entryFor_of_tree (by kernel_rfl)
theorem fk_code {x : Str} {t : Tok} {P : Fin → Shared → Prop} (hh : A.handled = none) (hl : x.cps.size ≤ 100) (ha : x.cps.all (· < 128) = true)
  (hR : ∀ D I h' tk, Kp s.heap h' → D ≠ I → s.heap.objs.size ≤ D → s.heap.get? I = none → h'.DictOf (strKind prog w) D [] → h'.IsStrIter I "str_ascii_iterator" x t 0 → P (.again (.builtin "dict.fromkeys.loop" ⟨[.ref D, .ref I, .none], []⟩)) { s with heap := h', toks := tk }) :
  wpAny (model prog w) A (Builtin.«dict.fromkeys» ⟨[.type "dict", .str x t], []⟩) P E s := by
  unfold Builtin.«dict.fromkeys»
  refine wpAny_bind (wpAny_of_eq (a := true) fk_isType ?_)
  dsimp only
  refine KFB.if_not rfl ?_
  refine wpAny_bind (wpAny_of_eq (a := true) fk_sub ?_)
  refine KFB.if_not rfl ?_
  refine KFB.if_not rfl ?_
  refine wpAny_bind (wpAny_rule ?_)
  refine wpAny_bind (wpAny_pure ?_)
  refine wpAny_bind (fk_dict0 (knd := strKind prog w) fun hd => ?_)
  refine wpAny_holding ?_
  refine wpAny_bind (wpAny_typeOf (T := "str") rfl ?_)
  refine wpAny_bind (wpAny_typeOf hd.mapOf.typeIs ?_)
  refine KFB.if_not (by decide) ?_
  refine wpAny_bind (wpAny_typeOf hd.mapOf.typeIs ?_)
  refine KFB.if_not (by decide) ?_
  refine wpAny_bind (wpAny_pyIter_ascii ha ?_)
  refine wpAny_pure (hR _ _ _ _ (fun b o e => Heap.get?_push_of_some _ (Heap.get?_push_of_some _ e)) ?_ ?_ ?_ (hd.push _) ⟨_, Heap.get?_push_size _ rfl, rfl, rfl⟩)
  · rw [Heap.size_push]; exact Nat.ne_of_lt (Nat.lt_succ_self _)
  · exact Nat.le_refl _
  · exact get_ge (by rw [Heap.size_push]; exact Nat.le_succ _)
def fbound : Obj := { cls := .type "builtin_function_or_method", data := .fields #[.builtin "dict.fromkeys", .type "dict"] }
def FbAt (z : Addr) (h : Heap) : Prop := h.get? z = some fbound
theorem fk_quiet {as : Args} : (Code.builtin "dict.fromkeys" as).quiet = true := Code.quiet_builtin _ (by decide +kernel)
theorem fk_check {x : Str} {t : Tok} : checkBoundCall "dict.fromkeys" ⟨[.type "dict", .str x t], []⟩ = pure () := by first | kernel_rfl | rfl
theorem fk_call {z : Addr} {x : Str} {t : Tok} {Q : Value → Shared → Prop} (ho : s.heap.get? z = some fbound) (hh : A.handled = none) (hl : x.cps.size ≤ 100) (ha : x.cps.all (· < 128) = true)
    (h : ∀ D h' tk kvs, Kp s.heap h' → s.heap.objs.size ≤ D → h'.DictOf (strKind prog w) D kvs → FK x.cps.toList kvs → Q (.ref D) { s with heap := h', toks := tk }) : wpAny (model prog w) A (call (.ref z) [.str x t]) Q E s := by
  refine wpAny_call (codeAny_of_tree ?_)
  show wpAny _ A.in1 (callAny (.ref z) ⟨[.str x t], []⟩) _ _ s
  simp only [callAny]
  refine wpAny_bind (wpAny_load ho ?_)
  simp only [fbound, show (Value.type "builtin_function_or_method" == Value.type "method" || Value.type "builtin_function_or_method" == Value.type "builtin_function_or_method" || Value.type "builtin_function_or_method" == Value.type "method-wrapper") = true by decide, if_true]
  refine KFB.if_so (by decide) ?_
  refine wpAny_bind (wpAny_of_eq (a := ()) fk_check ?_)
  refine wpAny_bind (wpAny_pure (wpAny_pure ?_))
  refine ⟨fk_quiet, codeAny_builtin fk_entry ?_⟩
  refine fk_code (by exact hh) hl ha fun D I h' tk hk hDI hD hI hd hit => ?_
  refine ⟨plainId_quiet fk_loop_plain _, fk_loop (s := s) hh hDI hl s.heap (get_ge hD) hI (fun h2 tk2 kvs k2 d2 f2 => h D h2 tk2 kvs k2 hD d2 f2) x.cps.size 0 [] h' tk (by omega) hk hd hit ⟨by simp, by simp, by simp⟩⟩
section
variable {h₀ : Heap} {L : Addr} {m : Str → Option Value} {news : List (Addr × Obj)} {K : Frag} {M : Model}
theorem fk_slot_get : Slot "classmethod_descriptor" "__get__" "classmethod_descriptor.__get__" := KFB.slot_get
theorem fk_owner : (kfb_private% "ownerAndName") "dict.fromkeys" = ("dict", "fromkeys") := by first | decide +kernel | kernel_rfl
theorem fk_type : typeOf (.builtin "dict.fromkeys") = pure (.type "classmethod_descriptor") := by show builtinType _ = _; rw [builtinType_eq_fast]; kernel_rfl
theorem fk_run_get {P : Fin → Shared → Prop} (h : P (.done (.ret (.ref s.heap.objs.size))) { s with heap := s.heap.push fbound }) :
    wpAny M A (Builtin.«classmethod_descriptor.__get__» ⟨[.builtin "dict.fromkeys", .none, .type "dict"], []⟩) P E s := by
  unfold Builtin.«classmethod_descriptor.__get__»
  refine wpAny_bind (wpAny_of_eq (a := (.builtin "dict.fromkeys", none, some (.type "dict"))) (by first | rfl | kernel_rfl) ?_)
  simp only [fk_owner]
  refine wpAny_bind (wpAny_of_eq (a := .type "dict") rfl ?_)
  refine wpAny_bind (wpAny_of_eq (a := true) fk_isType ?_)
  refine KFB.if_not rfl ?_
  refine wpAny_bind (wpAny_of_eq (a := true) fk_sub ?_)
  refine KFB.if_not rfl ?_
  exact wpAny_bind (wpAny_newObj_type (wpAny_pure h))
theorem fk_getm {pl : Sem Bool} {Q : Value × List Value → Shared → Prop} (F : Fr h₀ L s.heap m) (N : News h₀ L s.heap news) (X₀ : K.In h₀)
    (e : findCls K (.type "dict") (.type "type") (Str.ofString "fromkeys") = some (.get (.builtin "classmethod_descriptor.__get__") (.builtin "dict.fromkeys") .none (.type "dict")))
    (h : ∀ x h', Fr h₀ L h' m → News h₀ L h' ((x, fbound) :: news) → (∀ p ∈ news, p.1 < x) → Q (.ref x, []) { s with heap := h', toks := s.toks + 1 }) :
    wpAny (model prog w) A (getMethod (.type "dict") (Str.ofString "fromkeys") pl) Q E s := by
  have X := X₀.keeps F.keep
  have hstub : opaqueClassAbove (.type "dict") = pure none := by unfold opaqueClassAbove; dsimp only; rw [show Manifest.isStub "dict" = false by decide +kernel]; rfl
  have ht : typeOf (.type "dict") = pure (.type "type") := by first | rfl | kernel_rfl
  have L0 : Looks (model prog w) s.heap (typeOf (.type "dict")) (.type "type") := Looks.of_pure ht
  have hg : findIn K (.type "type") "__getattribute__" = some (some (.builtin "type.__getattribute__")) := type_tga
  unfold getMethod specialOf
  refine wpAny_bind (wpAny_bind (L0.here ((looks_findIn X hg).here ?_)))
  dsimp only
  rw [if_pos canon_tga]
  refine wpAny_bind (wpAny_mono (Q := fun v => Q (v, [])) (E := E) ?_ (fun _ _ z => wpAny_pure z) fun _ _ z => z)
  have LO : Looks (model prog w) s.heap (opaqueClassAbove (.type "dict")) none := Looks.of_pure hstub
  refine cls_open X LO L0 hg (looks_hook X (r := none) (by rfl)) (by show subIn K _ _ = _; rfl) e ?_
  show wpAny _ _ (holding [.builtin "dict.fromkeys"] (call (.builtin "classmethod_descriptor.__get__") [.builtin "dict.fromkeys", .none, .type "dict"]) >>= fun v => ret v) _ _ _
  refine wpAny_bind (wpAny_holding (wpAny_call_entry KFB.slot_get fk_type KFB.entry_get (fk_run_get ⟨_, rfl, wpAny_pure (wpAny_pure (h _ _ (F.push _) (News.push F N _) fun p hp => Heap.lt_size (N p hp).1))⟩) (KFB.args_get _ _ _)))
theorem fk_callWith_f {pos : Pos} {u : Addr} {first : List Value} {args : List (Bool × Sem Value)} {Q : Value → Shared → Prop} (hplain : args.any (·.1) = false)
    (h : wpAny M A (evalArgs (.ref u) true args []) (fun x s₁ => FbAt u s₁.heap ∧ wpAny M A (call (.ref u) (first ++ x.pos) x.kw) Q E s₁) E s) : wpAny M A (callWith pos (.ref u) first args []) Q E s := by
  unfold callWith
  refine wpAny_bind (wpAny_holding (wpAny_mono h (fun x s₁ h₁ => wpAny_bind (wpAny_standAt ?_)) fun _ _ x => x))
  obtain ⟨ho, hcall⟩ := h₁
  unfold FbAt at ho
  simp only [hplain, List.any_nil, Bool.or_false]
  refine wpAny_bind (m := keeperOf (.ref u)) ?_
  unfold keeperOf
  refine wpAny_bind (wpAny_load ho ?_)
  simp only [fbound, show (Value.type "builtin_function_or_method" != Value.type "method") = true by decide, show (Value.type "builtin_function_or_method" == Value.type "builtin_function_or_method" || Value.type "builtin_function_or_method" == Value.type "method-wrapper") = true by decide, if_true]
  refine wpAny_pure ?_
  exact wpAny_bind (wpAny_mono hcall (fun r s₂ hr => wpAny_bind (wpAny_holding (wpAny_point (wpAny_pure hr)))) fun _ _ x => x)
theorem fk_callWith {pos : Pos} {u : Addr} {first : List Value} {env : Env} {e : Expr} {rest : List Expr} {Q : Value → Shared → Prop} (_N : News h₀ L s.heap news) (_hm : (u, fbound) ∈ news)
    (h : wpAny M A (spliced (backTo pos (starEach (e :: rest) env))) (fun vs s₁ => FbAt u s₁.heap ∧ wpAny M A (call (.ref u) (first ++ vs)) Q E s₁) E s)
    (he : starEach (e :: rest) env = (false, eval e env) :: starEach rest env := by rfl) (hplain : (backTo pos (starEach rest env)).any (·.1) = false := by rfl) :
    wpAny M A (callWith pos (.ref u) first (backTo pos (starEach (e :: rest) env)) []) Q E s := by
  rw [he] at h ⊢
  refine fk_callWith_f (by show (false || (backTo pos (starEach rest env)).any (·.1)) = false; rw [hplain]; rfl) ?_
  exact evalArgs_plain h
end
end
/-! the table of maketrans -/
def IK (l : List Nat) (kvs : List (Int × Value)) : Prop := (∀ p ∈ kvs, p.2 = .none ∧ ∃ c ∈ l, p.1 = (c : Int)) ∧ (∀ c ∈ l, ∃ p ∈ kvs, p.1 = (c : Int)) ∧ kvs.length ≤ l.length
theorem IK.step {l : List Nat} {kvs : List (Int × Value)} {c : Nat} (h : IK l kvs) : IK (l ++ [c]) (stored kvs (c : Int) .none) := by
  unfold stored
  obtain ⟨h1, h2, h3⟩ := h
  split
  · rename_i ha
    refine ⟨?_, ?_, by simp; omega⟩
    · intro p hp
      obtain ⟨q, hq, rfl⟩ := List.mem_map.mp hp
      obtain ⟨a, c', hc', b⟩ := h1 q hq
      split
      · exact ⟨rfl, c', List.mem_append_left _ hc', b⟩
      · exact ⟨a, c', List.mem_append_left _ hc', b⟩
    · intro c' hc'
      rcases List.mem_append.mp hc' with h | h
      · obtain ⟨p, hp, e⟩ := h2 c' h
        refine ⟨_, List.mem_map.mpr ⟨p, hp, rfl⟩, ?_⟩
        split <;> exact e
      · rw [List.mem_singleton.mp h]
        obtain ⟨p, hp, e⟩ := List.any_eq_true.mp ha
        refine ⟨_, List.mem_map.mpr ⟨p, hp, rfl⟩, ?_⟩
        have := of_decide_eq_true e
        split <;> exact this
  · refine ⟨?_, ?_, by simp; omega⟩
    · intro p hp
      rcases List.mem_append.mp hp with h | h
      · obtain ⟨a, c', hc', b⟩ := h1 p h
        exact ⟨a, c', List.mem_append_left _ hc', b⟩
      · rw [List.mem_singleton.mp h]
        exact ⟨rfl, c, by simp, rfl⟩
    · intro c' hc'
      rcases List.mem_append.mp hc' with h | h
      · obtain ⟨p, hp, e⟩ := h2 c' h
        exact ⟨p, List.mem_append_left _ hp, e⟩
      · rw [List.mem_singleton.mp h]
        exact ⟨_, List.mem_append_right _ (.head _), rfl⟩
theorem IK.at {l : List Nat} {kvs : List (Int × Value)} (h : IK l kvs) (c : Nat) : valueAt kvs (c : Int) = if l.contains c then some .none else none := by
  obtain ⟨h1, h2, _⟩ := h
  unfold valueAt
  cases hf : kvs.find? (fun kv => kv.1 = (c : Int)) with
  | none =>
    have : l.contains c = false := by
      cases hc : l.contains c with
      | false => rfl
      | true =>
        obtain ⟨p, hp, e⟩ := h2 c (by simpa using hc)
        have := List.find?_eq_none.mp hf p hp
        simp [e] at this
    rw [this]; rfl
  | some p =>
    have hp := List.mem_of_find?_eq_some hf
    have he := List.find?_some hf
    obtain ⟨a, c', hc', e⟩ := h1 p hp
    have : c' = c := by
      have := of_decide_eq_true he
      omega
    subst this
    have : l.contains c' = true := by simpa using hc'
    rw [this, if_pos rfl]
    simp [a]
section
variable {w : World} {A : Around} {E : Value → Shared → Prop} {s : Shared}
inductive MtI (s : Shared) (w : World) (l : List Nat) (kvs : List (Str × Value)) (rest : List DictEntry) (s' : Shared) : Prop where
  | mk (h' : Heap) (tk : Nat) (ik : List (Int × Value)) (ks : List Nat) (kr : List (Str × Value)) (e : s' = { s with heap := h', toks := tk }) (a1 : Kp s.heap h') (a2 : h'.DictOf (intKind prog w) s.heap.objs.size ik) (a3 : IK ks ik) (a4 : Pairs (strKind prog w) rest kr) (a5 : ∀ p ∈ kr, p ∈ kvs) (a6 : ∀ c ∈ ks, c ∈ l) (a7 : ∀ c ∈ l, c ∈ ks ∨ ∃ p ∈ kr, p.1 = ⟨#[c]⟩) (a8 : ks.length + kr.length ≤ 100)
theorem mt_code {D : Addr} {kvs : List (Str × Value)} {l : List Nat} {P : Fin → Shared → Prop} (hd : s.heap.DictOf (strKind prog w) D kvs) (hf : FK l kvs) (hl : l.length ≤ 100) (hsys : (D == sysModules) = false)
  (hR : ∀ T h' tk ik, Kp s.heap h' → s.heap.objs.size ≤ T → h'.DictOf (intKind prog w) T ik → (∀ c : Nat, valueAt ik (c : Int) = if l.contains c then some .none else none) → P (.done (.ret (.ref T))) { s with heap := h', toks := tk }) :
  wpAny (model prog w) A (Builtin.«str.maketrans» ⟨[.ref D], []⟩) P E s := by
  obtain ⟨o, es, ep, ho, hex, hdat, hko, hpairs, hnd⟩ := id hd
  unfold Builtin.«str.maketrans»
  refine wpAny_bind (wpAny_of_eq (a := ()) rfl ?_)
  refine wpAny_bind (wpAny_of_eq (a := ()) rfl ?_)
  dsimp only
  refine wpAny_bind (wpAny_of_eq (a := none) rfl ?_)
  refine wpAny_bind (wpAny_of_eq (a := none) rfl ?_)
  refine wpAny_bind (m := newDict) ?_
  unfold newDict
  refine wpAny_newObj_type ?_
  dsimp only
  have hT : s.heap.get? s.heap.objs.size = none := get_ge (Nat.le_refl _)
  have hTD : s.heap.objs.size ≠ D := fun e => by rw [← e, hT] at ho; cases ho
  have ho1 := Heap.get?_push_of_some ({ cls := .type "dict", data := .dict #[] } : Obj) ho
  have hn1 : (s.heap.push { cls := .type "dict", data := .dict #[] }).DictOf (intKind prog w) s.heap.objs.size [] := Heap.DictOf.new s.heap
  have hty : ∀ s' : Shared, s'.heap.get? D = some o → s'.TypeIs (.ref D) "dict" := fun s' e => ⟨o, e, hex.1⟩
  refine wpAny_bind (wpAny_holding ?_)
  refine wpAny_bind (wpAny_typeOf (hty _ ho1) ?_)
  refine wpAny_bind (wpAny_of_eq (a := ()) (by first | rfl | kernel_rfl) ?_)
  refine wpAny_bind (wpAny_typeOf (hty _ ho1) ?_)
  refine KFB.if_not (by decide) ?_
  refine wpAny_bind (wpAny_of_eq (a := ()) (by unfold notTheModulesDict; rw [hsys]; rfl) ?_)
  refine wpAny_bind (wpAny_dictEntries ho1 hdat ?_)
  refine wpAny_bind (MeetsSeq2.wpAny_forIn_array _ (fun rest _ s' => MtI s w l kvs rest s') _ ?turn ?fin _ _ ?init)
  case init =>
    refine ⟨_, s.toks, [], [], kvs, rfl, fun b o e => Heap.get?_push_of_some _ e, hn1, ⟨by simp, by simp, by simp⟩, hpairs, fun p hp => hp, by simp, fun c hc => .inr (hf.2.1 c hc), ?_⟩
    have := hf.2.2
    simp; omega
  case fin =>
    rintro b s' ⟨h', tk, ik, ks, kr, rfl, hk, hdi, hik, hpr, hsub, h1, h2, _⟩
    cases hpr
    refine wpAny_pure (wpAny_pure ?_)
    refine hR _ h' tk ik hk (Nat.le_refl _) hdi fun c => ?_
    rw [hik.at]
    have e : ks.contains c = l.contains c := by
      rw [Bool.eq_iff_iff, List.contains_iff_mem, List.contains_iff_mem]
      refine ⟨fun h => h1 c h, fun h => ?_⟩
      rcases h2 c h with h | ⟨p, hp, _⟩
      · exact h
      · cases hp
    rw [e]
  case turn =>
    rintro x rest b s' ⟨h', tk, ik, ks, kr, rfl, hk, hdi, hik, hpr, hsub, h1, h2, h3⟩
    refine post_gen ?_
    intro Qv hQv
    cases hpr with
    | @cons e kv es kvs' he hv hr =>
    obtain ⟨hv2, c, hc, hk1⟩ := hf.1 kv (hsub kv (.head _))
    rw [hk1] at he
    obtain ⟨u, hu⟩ := Value.isStrOf_shape he
    rw [hu, hv, hv2]
    refine wpAny_bind (wpAny_of_eq (a := some ⟨#[c]⟩) rfl ?_)
    dsimp only
    refine wpAny_bind (wpAny_mkInt ?_)
    refine wpAny_bind (wpAny_dictSet_pairs (knd := intKind prog w) (k := (c : Int)) (intKind_is _ _ _ _) hdi (fun h2' hd2 hs2 => ?_) ?_)
    · refine wpAny_pure (hQv _ _ ?_)
      refine ⟨h2', _, stored ik (c : Int) .none, ks ++ [c], kvs', rfl, hk.but hs2 hT, hd2, hik.step, hr, fun p hp => hsub p (.tail _ hp), ?_, ?_, ?_⟩
      · intro a ha
        rcases List.mem_append.mp ha with h | h
        · exact h1 a h
        · rw [List.mem_singleton.mp h]; exact hc
      · intro a ha
        rcases h2 a ha with h | ⟨p, hp, e⟩
        · exact .inl (List.mem_append_left _ h)
        · rcases List.mem_cons.mp hp with rfl | hp
          · rw [hk1] at e
            injection e with e
            injection e with e
            injection e with e
            exact .inl (by rw [e]; simp)
          · exact .inr ⟨p, hp, e⟩
      · simp at h3 ⊢; omega
    · have := hik.2.2
      have hz : sizeLine ≥ 1000 := by decide +kernel
      omega
theorem tl_sub : isSubtype (.type "KeyError") (.type "LookupError") = pure true := by rw [isSubtype_type]; kernel_rfl
theorem mapOf_kp {h h' : Heap} {T : Addr} {f : Int → Option Value} (hm : h.MapOf (intKind prog w) T f) (hk : Kp h h') : h'.MapOf (intKind prog w) T f :=
  let ⟨o, es, ep, ho, r⟩ := hm; ⟨o, es, ep, hk _ _ ho, r⟩
theorem tl_any {T : Addr} {c : Nat} {f : Int → Option Value} {b : Bool} {Q : Builtin.Str.Mapped → Shared → Prop} (hh : A.handled = none) (hsys : (T == sysModules) = false) (hm : s.heap.MapOf (intKind prog w) T f) (hf : f (c : Int) = if b then some .none else none)
    (h : ∀ h' tk, Kp s.heap h' → Q (if b then .drop else .keep) { s with heap := h', toks := tk }) : wpAny (model prog w) A (Builtin.Str.tableLookup (.ref T) c) Q E s := by
  unfold Builtin.Str.tableLookup
  refine wpAny_bind (wpAny_attempt (wpAny_bind (wpAny_mkInt ?_)))
  cases b with
  | true =>
    refine wpAny_getItem_of (knd := intKind prog w) (k := (c : Int)) (intKind_is _ _ _ _) hm hf ?_
    exact wpAny_pure (h _ _ fun _ _ e => e)
  | false =>
    refine wpAny_getItem_missing_of (knd := intKind prog w) (k := (c : Int)) (intKind_is _ _ _ _) hsys hh hm hf fun h' e hx => ?_
    dsimp only
    refine wpAny_bind (wpAny_isInstance (T := "KeyError") ?_ tl_sub ?_)
    · obtain ⟨o, _, ho, hc, _⟩ := hx.there
      exact ⟨o, ho, hc⟩
    · refine KFB.if_so rfl ?_
      exact wpAny_bind (wpAny_rule (wpAny_pure (h _ _ hx.keeps)))
theorem tr_short {n : Nat} (h : n ≤ 1000) : Builtin.Str.tooLong n = false := by
  have hz : sizeLine ≥ 1000 := by decide +kernel
  unfold Builtin.Str.tooLong
  simp
  omega
theorem tr_size {l : List Nat} {p : Nat → Bool} (h : l.length ≤ 1000) : (⟨(l.filter p).toArray⟩ : Str).length ≤ sizeLine := by
  have hz : sizeLine ≥ 1000 := by decide +kernel
  have := List.length_filter_le p l
  simp only [Str.length, List.size_toArray]
  omega
theorem tr_fold : ∀ (l : List Nat) (a : Array Nat), (l.map fun c => (⟨#[c]⟩ : Str)).foldl (fun acc p => acc ++ p.cps) a = a ++ l.toArray
  | [], a => by simp
  | c :: r, a => by
    rw [List.map_cons, List.foldl_cons, tr_fold r]
    simp
inductive TrI (s : Shared) (x l rest : List Nat) (b : List Str × Nat × Bool × List (Nat × Option Nat) × Bool) (s' : Shared) : Prop where
  | mk (h' : Heap) (tk : Nat) (done : List Nat) (e : s' = { s with heap := h', toks := tk }) (k : Kp s.heap h') (ex : x = done ++ rest) (e1 : b.1 = (done.filter fun c => !l.contains c).reverse.map (fun c => (⟨#[c]⟩ : Str))) (e2 : b.2.1 ≤ done.length) (e3 : ∀ p ∈ b.2.2.2.1, p.2 = if l.contains p.1 then none else some p.1)
theorem tr_code {x : List Nat} {t : Tok} {T : Addr} {f : Int → Option Value} {l : List Nat} {P : Fin → Shared → Prop} (hh : A.handled = none) (hsys : (T == sysModules) = false) (hm : s.heap.MapOf (intKind prog w) T f) (hf : ∀ c : Nat, f (c : Int) = if l.contains c then some .none else none)
    (h0 : x ≠ []) (hx : x.length ≤ 1000)
    (hR : ∀ h' tk t', Kp s.heap h' → P (.done (.ret (.str (S (x.filter fun c => !l.contains c)) t'))) { s with heap := h', toks := tk }) :
  wpAny (model prog w) A (Builtin.«str.translate» ⟨[.str (S x) t, .ref T], []⟩) P E s := by
  unfold Builtin.«str.translate»
  refine wpAny_bind (wpAny_of_eq (a := (.str (S x) t, S x, .ref T)) (by first | rfl | kernel_rfl) ?_)
  dsimp only
  refine KFB.if_not (by cases x with | nil => exact absurd rfl h0 | cons a r => simp [S, Str.length]) ?_
  refine wpAny_bind (MeetsSeq2.wpAny_forIn_array _ (TrI s x l) _ ?turn ?fin _ _ ?init)
  case init => exact ⟨s.heap, s.toks, [], rfl, fun _ _ e => e, rfl, rfl, Nat.le_refl _, by simp⟩
  case fin =>
    rintro ⟨pieces, total, fast, known, ad⟩ s' ⟨h', tk, done, rfl, hk, hx', hp, ht, _⟩
    rw [List.append_nil] at hx'
    subst hx'
    dsimp only at hp ht ⊢
    refine KFB.if_not (tr_short (by omega)) ?_
    have e : pieces.reverse.foldl (fun acc p => acc ++ p.cps) #[] = (x.filter fun c => !l.contains c).toArray := by
      rw [hp, ← List.map_reverse, List.reverse_reverse, tr_fold]
      simp
    rw [e]
    exact wpAny_bind (wpAny_mkStr (wpAny_pure (hR _ _ _ hk)) (tr_size hx))
  case turn =>
    rintro c rest ⟨pieces, total, fast, known, ad⟩ s' ⟨h', tk, done, rfl, hk, hx', hp, ht, hkn⟩
    dsimp only at hp ht hkn ⊢
    refine post_gen ?_
    intro Qv hQv
    have hlen : done.length + rest.length + 1 ≤ 1000 := by have := congrArg List.length hx'; simp at this; omega
    refine KFB.if_not (tr_short (by omega)) ?_
    have push : ∀ h2 tk2 f2 k2 a2, l.contains c = false → Kp s.heap h2 → (∀ p ∈ k2, p.2 = if l.contains p.1 then none else some p.1) →
        TrI s x l rest (⟨#[c]⟩ :: pieces, total + 1, f2, k2, a2) { s with heap := h2, toks := tk2 } := by
      intro h2 tk2 f2 k2 a2 hc hk2 hkn2
      refine ⟨h2, tk2, done ++ [c], rfl, hk2, by rw [hx']; simp, ?_, by simp; omega, hkn2⟩
      have : (!l.contains c) = true := by rw [hc]; rfl
      simp only [List.filter_append, List.filter_cons, List.filter_nil, this, if_true, List.reverse_append, List.reverse_cons, List.reverse_nil, List.nil_append, List.map_append, List.map_cons, List.map_nil, List.cons_append, hp]
    have skip : ∀ h2 tk2 f2 k2 a2, l.contains c = true → Kp s.heap h2 → (∀ p ∈ k2, p.2 = if l.contains p.1 then none else some p.1) →
        TrI s x l rest (pieces, total, f2, k2, a2) { s with heap := h2, toks := tk2 } := by
      intro h2 tk2 f2 k2 a2 hc hk2 hkn2
      refine ⟨h2, tk2, done ++ [c], rfl, hk2, by rw [hx']; simp, ?_, by simp; omega, hkn2⟩
      have : (!l.contains c) = false := by rw [hc]; rfl
      simp only [List.filter_append, List.filter_cons, List.filter_nil, this, Bool.false_eq_true, if_false, List.append_nil, hp]
    have tl : ∀ (h2 : Heap) (tk2 : Nat) (Q : Builtin.Str.Mapped → Shared → Prop), Kp s.heap h2 → (∀ h3 tk3, Kp s.heap h3 → Q (if l.contains c then .drop else .keep) { s with heap := h3, toks := tk3 }) → wpAny (model prog w) A (Builtin.Str.tableLookup (.ref T) c) Q E { s with heap := h2, toks := tk2 } :=
      fun h2 tk2 Q hk2 hq => tl_any hh hsys (mapOf_kp hm hk2) (hf c) fun h3 tk3 hk3 => hq h3 tk3 fun b o e => hk3 b o (hk2 b o e)
    cases fast with
    | false =>
      refine KFB.if_not rfl ?_
      cases ad with
      | true =>
        refine KFB.if_so rfl ?_
        refine wpAny_bind (tl _ _ _ hk fun h3 tk3 hk3 => ?_)
        cases hc : l.contains c with
        | true =>
          simp only [if_true]
          exact wpAny_pure (hQv _ _ (skip _ _ _ _ _ hc hk3 hkn))
        | false =>
          simp only [Bool.false_eq_true, if_false]
          refine wpAny_bind (tl _ _ _ hk3 fun h4 tk4 hk4 => ?_)
          rw [hc]
          simp only [Bool.false_eq_true, if_false]
          exact wpAny_pure (hQv _ _ (push _ _ _ _ _ hc hk4 hkn))
      | false =>
        refine KFB.if_not rfl ?_
        refine wpAny_bind (tl _ _ _ hk fun h3 tk3 hk3 => ?_)
        cases hc : l.contains c with
        | true =>
          simp only [if_true]
          exact wpAny_pure (hQv _ _ (skip _ _ _ _ _ hc hk3 hkn))
        | false =>
          simp only [Bool.false_eq_true, if_false]
          exact wpAny_pure (hQv _ _ (push _ _ _ _ _ hc hk3 hkn))
    | true =>
      refine KFB.if_so rfl ?_
      cases hlk : known.lookup c with
      | some a =>
        have ha : a = if l.contains c then none else some c := by
          obtain ⟨l1, l2, e, _⟩ := List.lookup_eq_some_iff.mp hlk
          exact hkn (c, a) (by rw [e]; simp)
        dsimp only
        refine wpAny_bind (wpAny_pure ?_)
        cases hc : l.contains c with
        | true =>
          rw [hc, if_pos rfl] at ha
          subst ha
          exact wpAny_pure (hQv _ _ (skip _ _ _ _ _ hc hk hkn))
        | false =>
          rw [hc, if_neg (by simp)] at ha
          subst ha
          exact wpAny_pure (hQv _ _ (push _ _ _ _ _ hc hk hkn))
      | none =>
        dsimp only
        refine wpAny_bind (tl _ _ _ hk fun h3 tk3 hk3 => ?_)
        cases hc : l.contains c with
        | true =>
          simp only [if_true]
          refine wpAny_bind (wpAny_pure ?_)
          refine wpAny_pure (hQv _ _ (skip _ _ _ _ _ hc hk3 ?_))
          intro p hp
          rcases List.mem_cons.mp hp with rfl | hp
          · rw [hc, if_pos rfl]
          · exact hkn p hp
        | false =>
          simp only [Bool.false_eq_true, if_false]
          refine wpAny_bind (wpAny_pure ?_)
          refine wpAny_pure (hQv _ _ (push _ _ _ _ _ hc hk3 ?_))
          intro p hp
          rcases List.mem_cons.mp hp with rfl | hp
          · rw [hc, if_neg (by simp)]
          · exact hkn p hp
end
section
variable {w : World} {A : Around} {E : Value → Shared → Prop} {s : Shared} {h₀ : Heap} {L : Addr} {m : Str → Option Value} {news : List (Addr × Obj)}
theorem kp_news {h h' : Heap} (N : News h₀ L h news) (k : Kp h h') : News h₀ L h' news := fun p hp => ⟨k _ _ (N p hp).1, (N p hp).2⟩
theorem kp_new {h h' : Heap} {D : Addr} {o : Obj} (F : Fr h₀ L h m) (N : News h₀ L h news) (k : Kp h h') (hD : h.objs.size ≤ D) (ho : h'.get? D = some o) : News h₀ L h' ((D, o) :: news) := by
  have h1 : D ≠ L := fun e => absurd (Nat.lt_of_lt_of_le F.ns.lt hD) (by rw [e]; exact Nat.lt_irrefl _)
  have h2 : h₀.get? D = none := get_ge (Nat.le_trans F.above (Nat.le_trans (Nat.le_of_lt F.ns.lt) hD))
  intro p hp
  rcases List.mem_cons.mp hp with rfl | hp
  · exact ⟨ho, h1, h2⟩
  · exact kp_news N k p hp
theorem not_sys {h : Heap} {D : Addr} (F : Fr h₀ L h m) (hb : sysModules < h₀.objs.size) (hD : h.objs.size ≤ D) : (D == sysModules) = false := by
  have h1 : sysModules < D := Nat.lt_of_lt_of_le hb (Nat.le_trans F.above (Nat.le_trans (Nat.le_of_lt F.ns.lt) hD))
  exact beq_eq_false_iff_ne.mpr (Nat.ne_of_gt h1)
theorem fk_callN {z : Addr} {x : Str} {t : Tok} {Q : Value → Shared → Prop} (F : Fr h₀ L s.heap m) (N : News h₀ L s.heap news) (hm : (z, fbound) ∈ news) (hb : h₀.NoLimit) (hh : A.handled = none) (hl : x.cps.size ≤ 100) (ha : x.cps.all (· < 128) = true)
    (h : ∀ D o h' tk kvs, Fr h₀ L h' m → News h₀ L h' ((D, o) :: news) → (∀ p ∈ news, p.1 < D) → o.IsDictOf (strKind prog w) kvs ∧ FK x.cps.toList kvs ∧ (D == sysModules) = false → Q (.ref D) { s with heap := h', toks := tk }) : wpAny (model prog w) A (call (.ref z) [.str x t]) Q E s :=
  fk_call (N.get hm) hh hl ha fun D h' tk kvs hk hD hd hf => by
    obtain ⟨o, ho, hod⟩ := Heap.dictOf_iff.mp hd
    exact h D o h' tk kvs (F.keptAll hk) (kp_new F N hk hD ho) (fun p hp => Nat.lt_of_lt_of_le (Heap.lt_size (N p hp).1) hD) ⟨hod, hf, not_sys F (modules_low hb) hD⟩
theorem mt_entry : entryFor table "str.maketrans" = some Builtin.«str.maketrans» := entryFor_of_tree (by kernel_rfl)
theorem mt_check {D : Addr} : checkBuiltinCall "str.maketrans" ⟨[.ref D], []⟩ = pure () := by kernel_rfl
theorem mt_plain : plainId "str.maketrans" = true := by decide +kernel
theorem mt_callN {D : Addr} {o : Obj} {kvs : List (Str × Value)} {l : List Nat} {Q : Value → Shared → Prop} (F : Fr h₀ L s.heap m) (N : News h₀ L s.heap ((D, o) :: news)) (hb : h₀.NoLimit) (ho : o.IsDictOf (strKind prog w) kvs ∧ FK l kvs ∧ (D == sysModules) = false) (hl : l.length ≤ 100)
    (h : ∀ T o' h' tk ik, Fr h₀ L h' m → News h₀ L h' ((T, o') :: news) → (∀ p ∈ news, p.1 < T) → o'.IsDictOf (intKind prog w) ik ∧ (∀ c : Nat, valueAt ik (c : Int) = if l.contains c then some .none else none) ∧ (T == sysModules) = false → Q (.ref T) { s with heap := h', toks := tk }) : wpAny (model prog w) A (call (.builtin "str.maketrans") [.ref D]) Q E s := by
  have N2 : News h₀ L s.heap news := fun p hp => N p (.tail _ hp)
  refine wpAny_call (codeAny_call_builtin mt_plain mt_entry (wpAny_of_eq mt_check ?_))
  refine mt_code (Heap.dictOf_iff.mpr ⟨o, (N _ (.head _)).1, ho.1⟩) ho.2.1 hl ho.2.2 fun T h' tk ik hk hT hd hv => ?_
  obtain ⟨o', ho', hod⟩ := Heap.dictOf_iff.mp hd
  exact h T o' h' tk ik (F.keptAll hk) (kp_new F N2 hk hT ho') (fun p hp => Nat.lt_of_lt_of_le (Heap.lt_size (N2 p hp).1) hT) ⟨hod, hv, not_sys F (modules_low hb) hT⟩
theorem tr_entry : entryFor table "str.translate" = some Builtin.«str.translate» := entryFor_of_tree (by kernel_rfl)
theorem tr_check {x : Str} {t : Tok} {T : Addr} : checkBuiltinCall "str.translate" ⟨[.str x t, .ref T], []⟩ = pure () := by kernel_rfl
theorem tr_plain : plainId "str.translate" = true := by decide +kernel
theorem tr_callN {T : Addr} {o : Obj} {ik : List (Int × Value)} {l x : List Nat} {t : Tok} {Q : Value → Shared → Prop} (F : Fr h₀ L s.heap m) (N : News h₀ L s.heap ((T, o) :: news)) (ho : o.IsDictOf (intKind prog w) ik ∧ (∀ c : Nat, valueAt ik (c : Int) = if l.contains c then some .none else none) ∧ (T == sysModules) = false) (hh : A.handled = none) (h0 : x ≠ []) (hx : x.length ≤ 1000)
    (h : ∀ h' tk t', Fr h₀ L h' m → News h₀ L h' news → Q (.str (S (x.filter fun c => !l.contains c)) t') { s with heap := h', toks := tk }) : wpAny (model prog w) A (call (.builtin "str.translate") [.str (S x) t, .ref T]) Q E s := by
  have N2 : News h₀ L s.heap news := fun p hp => N p (.tail _ hp)
  have hd : s.heap.DictOf (intKind prog w) T ik := Heap.dictOf_iff.mpr ⟨o, (N _ (.head _)).1, ho.1⟩
  refine wpAny_call (codeAny_call_builtin tr_plain tr_entry (wpAny_of_eq tr_check ?_))
  exact tr_code hh ho.2.2 hd.mapOf ho.2.1 h0 hx fun h' tk t' hk => h h' tk t' (F.keptAll hk) (kp_news N2 hk)
end
end Mine

end
section
namespace Mine
section
variable {w : World} {A : Around} {E : Value → Shared → Prop} {s : Shared}
theorem mt_lookup : typeLookup (.type "str") (Str.ofString "maketrans") = pure (some (.builtin "str.maketrans")) := by rw [typeLookup_type, builtinLookup_eq_fast]; kernel_rfl
theorem mt_kind : builtinKind "str.maketrans" = some Manifest.AttrKind.staticMethod := by decide +kernel
theorem mt_noget : typeLookup (.type "builtin_function_or_method") "__get__" = pure none := by rw [typeLookup_type, builtinLookup_eq_fast]; kernel_rfl
theorem mt_getattr {x : Str} {t : Tok} {Q : Value → Shared → Prop} (h : ∀ tk, Q (.builtin "str.maketrans") { s with toks := tk }) :
    wpAny (model prog w) A (getAttr (.str x t) (Str.ofString "maketrans")) Q E s := by
  obtain ⟨hp, g, d, tk, os⟩ := s
  have hT : ∀ s' : Shared, s'.TypeIs (.str x t) "str" := fun _ => rfl
  have f3 := F.slot_str_getattribute.lookup
  have f4 := F.slot_str_getattribute.bind (.str x t)
  have f6 := mt_lookup
  unfold getAttr getAttrBy
  repeat (any_goals (first | assumption | ((with_reducible show wpAny _ _ (call (Value.builtin "object.__getattribute__") _ _) _ _ _); refine wpAny_call_entry F.slot_str_getattribute (hT _) F.entry_object_getattribute ?_ (F.args_object_getattribute_2 _ _); unfold Builtin.«object.__getattribute__») | wp_step))
  rw [mt_kind]
  have f7 := mt_noget
  dsimp only
  repeat (any_goals (first | assumption | wp_step))
  exact ⟨_, rfl, wpAny_of_eq rfl (h _)⟩
theorem mt_type : typeOf (.builtin "str.maketrans") = pure (.type "builtin_function_or_method") := by show builtinType _ = _; rw [builtinType_eq_fast]; kernel_rfl
theorem mt_getm {x : Str} {t : Tok} {pl : Sem Bool} {Q : Value × List Value → Shared → Prop} (h : ∀ tk, Q (.builtin "str.maketrans", []) { s with toks := tk }) :
    wpAny (model prog w) A (getMethod (.str x t) (Str.ofString "maketrans") pl) Q E s := by
  have hT : ∀ s' : Shared, s'.TypeIs (.str x t) "str" := fun _ => rfl
  have f3 := F.slot_str_getattribute.lookup
  have f5 := am_str_getattr_none
  have f6 := mt_lookup
  unfold getMethod
  with_reducible refine wpAny_bind ?_
  with_reducible refine wpAny_specialOf (hT s) f3 ?_
  dsimp only
  rw [if_neg (show ¬ ((Manifest.canonical "object.__getattribute__" != "object.__getattribute__") = true) by decide +kernel)]
  with_reducible refine wpAny_bind ?_
  with_reducible refine wpAny_specialOf (hT s) f5 ?_
  rw [if_neg (show ¬ ((none : Option Value).isSome = true) by simp)]
  with_reducible refine wpAny_bind ?_
  with_reducible refine wpAny_specialOf (hT s) f6 ?_
  dsimp only
  with_reducible refine wpAny_bind ?_
  rw [mt_type]
  with_reducible refine wpAny_pure ?_
  have hc : (Value.type "builtin_function_or_method" != Value.type "function" && Value.type "builtin_function_or_method" != Value.type "method_descriptor" && Value.type "builtin_function_or_method" != Value.type "wrapper_descriptor") = true := by kernel_rfl
  rw [if_pos hc]
  exact wpAny_bind (mt_getattr fun tk => wpAny_pure (h tk))
theorem tr_getm {x : Str} {t : Tok} {pl : Sem Bool} {Q : Value × List Value → Shared → Prop} (h : Q (.builtin "str.translate", [.str x t]) s) :
    wpAny (model prog w) A (getMethod (.str x t) (Str.ofString "translate") pl) Q E s :=
  getMethod_builtin (typeIs_str _ _ _) F.plainAttrs_str F.slot_str_translate F.type_str_translate (fun _ e => nomatch e) h
end
end Mine

end
section
namespace Mine
/-- the signs of a word where there is punctuation, before it is taken out -/
def WL (b : Bool) : List Nat := (WC b).cps.toList ++ (Str.ofString "~-./*?=").cps.toList
def WP (b : Bool) : Str := S ((WL b).filter fun c => !(Str.ofString "();<>|&").cps.toList.contains c)
theorem wl_len (b : Bool) : (WL b).length ≤ 1000 ∧ WL b ≠ [] := by
  cases b <;> decide +kernel
theorem wc_add {w : World} {A : Around} {E : Value → Shared → Prop} {s : Shared} {Q : Value → Shared → Prop} {b : Bool} {t u : Tok} (h : ∀ t' k, Q (.str (S (WL b)) t') { s with toks := k }) :
    wpAny (model prog w) A (inplaceOp .Add (.str (WC b) t) (.str (Str.ofString "~-./*?=") u)) Q E s := by
  refine PyProof.Rows.iadd_str (fun t' k => ?_) ?_
  · have e : WC b ++ Str.ofString "~-./*?=" = S (WL b) := by cases b <;> decide +kernel
    rw [e]; exact h t' k
  · cases b <;> decide +kernel
section
variable {w : World} {A : Around} {E : Value → Shared → Prop} {Q : Flow → Shared → Prop} {s : Shared} {env : Env} {h₀ h : Heap} {L d : Addr} {m : Str → Option Value} {tk : Nat} {a0 a1 a : Addr × Obj} {post : List (Addr × Obj)}
def CtE (h₀ : Heap) (L : Addr) (s : Shared) (m : Str → Option Value) (b : Bool) (Led : Tok → Value → List (Addr × Obj)) (s' : Shared) : Prop :=
  ∃ h' tk t ev, s' = { s with heap := h', toks := tk } ∧ EV b ev ∧ Fr h₀ L h' m ∧ News h₀ L h' (Led t ev)
theorem ct_eof {st : Stmt} {rest : List Stmt} {P : Params} {e0 e1 e2 : DictEntry} {b : Bool} (F : Fr h₀ L h m) (N : News h₀ L h (a0 :: a1 :: a :: (d, dictOf [e0, e1, e2] 3) :: post))
    (h1 : Fr h₀ L h m → News h₀ L h (a0 :: a1 :: a :: (d, dictOf [e0, e1, e2] 3) :: post) → wpAny (model prog w) A (exec st env) (fun f s' => match f with | .next => CtE h₀ L s m b (fun t ev => a0 :: a1 :: a :: (d, dictOf [e0, e1, e2, ent P "eof" t ev] 4) :: post) s' | f => Q f s') E { s with heap := h, toks := tk })
    (h2 : ∀ h' tk t ev, EV b ev → Fr h₀ L h' m → News h₀ L h' (a0 :: a1 :: a :: (d, dictOf [e0, e1, e2, ent P "eof" t ev] 4) :: post) → wpAny (model prog w) A (execs rest env) Q E { s with heap := h', toks := tk }) :
    wpAny (model prog w) A (execs (st :: rest) env) Q E { s with heap := h, toks := tk } :=
  execs_mid (CtE h₀ L s m b (fun t ev => a0 :: a1 :: a :: (d, dictOf [e0, e1, e2, ent P "eof" t ev] 4) :: post)) (h1 F N) (by
    rintro s' ⟨h', tk, t, ev, rfl, c1, c2, c3⟩
    exact h2 h' tk t ev c1 c2 c3)
def CtW (h₀ : Heap) (L : Addr) (s : Shared) (m : Str → Option Value) (Led : Tok → List (Addr × Obj)) (s' : Shared) : Prop :=
  ∃ h' tk t, s' = { s with heap := h', toks := tk } ∧ Fr h₀ L h' m ∧ News h₀ L h' (Led t)
theorem ct_wc {st : Stmt} {rest : List Stmt} {P : Params} {e0 e1 e2 e3 e4 : DictEntry} {b : Bool} {k : Tok} {v : Value} (F : Fr h₀ L h m) (N : News h₀ L h (a0 :: a1 :: a :: (d, dictOf [e0, e1, e2, e3, e4, ent P "wordchars" k v] 6) :: post))
    (h1 : Fr h₀ L h m → News h₀ L h (a0 :: a1 :: a :: (d, dictOf [e0, e1, e2, e3, e4, ent P "wordchars" k v] 6) :: post) → wpAny (model prog w) A (exec st env) (fun f s' => match f with | .next => CtW h₀ L s m (fun t => a0 :: a1 :: a :: (d, dictOf [e0, e1, e2, e3, e4, ent P "wordchars" k (.str (WC b) t)] 6) :: post) s' | f => Q f s') E { s with heap := h, toks := tk })
    (h2 : ∀ h' tk t, Fr h₀ L h' m → News h₀ L h' (a0 :: a1 :: a :: (d, dictOf [e0, e1, e2, e3, e4, ent P "wordchars" k (.str (WC b) t)] 6) :: post) → wpAny (model prog w) A (execs rest env) Q E { s with heap := h', toks := tk }) :
    wpAny (model prog w) A (execs (st :: rest) env) Q E { s with heap := h, toks := tk } :=
  execs_mid (CtW h₀ L s m (fun t => a0 :: a1 :: a :: (d, dictOf [e0, e1, e2, e3, e4, ent P "wordchars" k (.str (WC b) t)] 6) :: post)) (h1 F N) (by
    rintro s' ⟨h', tk, t, rfl, c2, c3⟩
    exact h2 h' tk t c2 c3)
end
end Mine
namespace Mine
section
variable {w : World} {A : Around} {E : Value → Shared → Prop} {s : Shared} {K : Frag} {x C dx L : Addr} {h₀ : Heap} {m : Str → Option Value} {news news' : List (Addr × Obj)} {ox : Obj} {es es' : List DictEntry} {n n' : Nat} {name : Str} {v : Value}
/-- an attribute stored; the count of tokens is forgotten -/
theorem set_dictK {Q : Unit → Shared → Prop} (F : Fr h₀ L s.heap m) (X₀ : K.In h₀) (N : News h₀ L s.heap news) (I : InstAt s.heap x ox C (some (dictOf es n))) (hd : ox.dict = some dx)
    (hs : findIn K (.ref C) "__setattr__" = some (some (.builtin "object.__setattr__"))) (hp : plainOver K C = true) (ht : takerIn K C name = some none) (hh : hasDictIn K C = true) (hl : (getL name es).isSome = true)
    (e : (putL name (PyData.keyHash w.params name) (.str name (s.toks + 1)) v es, putN name es n) = (es', n')) (U : Upd dx (dictOf es n) (dictOf es' n') news news') (hz : es'.length ≤ 1000)
    (h : ∀ h' k, Fr h₀ L h' m → News h₀ L h' news' → Q () { s with heap := h', toks := k }) :
    wpAny (model prog w) A (setAttr (.ref x) name v) Q E s := set_dict F X₀ N I hd hs hp ht hh hl e U hz fun h' => h h' _
end
end Mine
local macro_rules | `(tactic| walk_at "setAttr ref") => `(tactic| (k_here; k_dflt (refine' Mine.set_dictK (by k_asm) (by k_asm) (by k_asm) (by k_inst) (by exact rfl) (by k_is) (by k_is) (by k_is) (by k_is) (by k_get) (by k_put) (by k_upd) (by exact Nat.le_of_ble_eq_true rfl) ?_; k_whole; intro h' k' F' N'; (try dsimp only at N'); (try k_sweep))))
local macro_rules | `(tactic| k_all) => `(tactic| exact Mine.allLt_ne (by with_reducible assumption))
local macro_rules | `(tactic| walk_at "call type:collections.deque") => `(tactic| (k_here; k_dflt (refine' Mine.dq_new (by k_asm) (by k_asm) ?_; k_whole); intro q' h' F' N' l1; (try k_lt l1); (try k_sweep)))
namespace Mine
section
variable {w : World} {A₀ : Around} {base h₀ : Heap} {outer : List Env} {L : Addr} {m mg mb : Str → Option Value} {loose : List Str} {mean : ExcName → Option Value} {s : Shared} {Q E : Value → Shared → Prop} {p : Program}
  {hdl : Option Value} {d u : Nat} {gs : Option (List Code)} {rest : List (Addr × Obj)} {ns : List (Str × NameKind)} {ig ic : Bool} {mo : List (Str × Const)} {gl bi : Addr} {cs : List (Str × Addr)} {qn : Str} {fo : Option Addr} {cdv : Value}
theorem ctorP_ord {h : Heap} {z a b c d e f g : Addr × Obj} {rest : List (Addr × Obj)} (N : News h₀ L h (z :: g :: f :: c :: a :: b :: d :: e :: rest)) : News h₀ L h (a :: b :: g :: d :: e :: c :: f :: rest) := by
  intro q hq
  refine N q ?_
  (repeat' (rcases List.mem_cons.mp hq with rfl | hq))
  all_goals (repeat (first | exact List.Mem.head _ | exact hq | refine List.Mem.tail _ ?_))
theorem ctor5 {x : Str} {b pn : Bool} {tk : Tok}
  (B : Below A₀ base outer h₀) (F : Fr h₀ L s.heap m) (X : (hd.heap_1 w.params).In h₀) (T : Top p loose mean mg mb h₀) (hdp : d < 900) (hun : u < 9000)
  (hx : x.length ≤ 100000)
  (N : News h₀ L s.heap rest)
  (hQ : pn = false → ∀ lx dx io iod pb fs h' kt T ev t1 ts tl tt k, Fr h₀ L h' m → EV b ev → @LT.lt Nat _ dx lx → @LT.lt Nat _ lx iod → @LT.lt Nat _ iod io → @LT.lt Nat _ io pb → @LT.lt Nat _ pb fs → AllLt dx rest → AllLt iod rest → AllLt pb rest → AllLt fs rest → 
    News h₀ L h' ((io, instObj 587 iod) :: (iod, ioD w.params kt x 0 t1) :: (pb, dqO [] 0) :: (lx, instObj 722 dx) ::
      (dx, lexD w.params T b false ev (Str.ofString "#") (WC b) pb fs io .none (.str (Str.ofString " ") ts) 1 tl (Str.ofString "") tt) :: (fs, dqO [] 0) :: rest) → Q (.ref lx) { s with heap := h', toks := k })
  (hP : pn = true → ∀ lx dx io iod pb fs pc h' kt T k19 ev t1 ts tl tt k, Fr h₀ L h' m → EV b ev → @LT.lt Nat _ dx lx → @LT.lt Nat _ lx iod → @LT.lt Nat _ iod io → @LT.lt Nat _ io pb → @LT.lt Nat _ pb fs → @LT.lt Nat _ fs pc → AllLt dx rest → AllLt iod rest → AllLt pb rest → AllLt fs rest → AllLt pc rest → 
    News h₀ L h' ((io, instObj 587 iod) :: (iod, ioD w.params kt x 0 t1) :: (pc, dqO [] 0) :: (lx, instObj 722 dx) ::
      (dx, lexP w.params T k19 b false ev (Str.ofString "#") (WP b) (Str.ofString "();<>|&") pb fs io pc .none (.str (Str.ofString " ") ts) 1 tl (Str.ofString "") tt) :: (pb, dqO [] 0) :: (fs, dqO [] 0) :: rest) → Q (.ref lx) { s with heap := h', toks := k })
  : wpAny (model prog w) (ar none d (fenv ns ig ic mo gl cs qn fo cdv bi L :: outer) gs u) (call (.ref 722) [.str x tk] [(Str.ofString "posix", .bool b), (Str.ofString "punctuation_chars", .bool pn)]) Q E s := by
  have hwl := (wl_len b).1
  have hw0 := (wl_len b).2
  (repeat' (first | (k_unfold; (try dsimp only)) | ((fail_if_success (with_reducible show wpAny _ _ (call (Value.ref 587) [Value.str _ _]) _ _ _)); walk1)))
  k_dflt (refine' Mine.io_make (by k_asm) (by k_asm) (by k_asm) (by k_asm) (by k_room) (by k_units) (by assumption) (by k_asm) ?_; k_whole)
  intro io' iod' h' kt' t' k' F' N' l1 l2
  (try simp only [AllLt, and_true] at l1)
  (try k_sweep)
  (repeat' (first | (k_unfold; (try dsimp only)) | ((fail_if_success (with_reducible show wpAny _ _ (execs ((Stmt.If (Expr.Name ("posix" : Str) _) _ _ _) :: _) _) _ _ _)); walk1)))
  refine post_genF ?_
  intro Qv hQv
  (with_reducible rename Fr _ _ _ _ => kF)
  (with_reducible rename News _ _ _ _ => kN)
  refine ct_eof (P := w.params) (b := b) kF kN ?_ ?_
  · clear kF kN
    intro kF kN
    cases b
    all_goals k_steps
    · exact ⟨_, _, _, _, rfl, ⟨_, rfl⟩, by assumption, by assumption⟩
    · exact ⟨_, _, _, _, rfl, rfl, by assumption, by assumption⟩
  · clear kF kN
    intro h' tk t ev hev kF kN
    (repeat' (first | (k_unfold; (try dsimp only)) | ((fail_if_success (with_reducible show wpAny _ _ (execs ((Stmt.If (Expr.Attribute _ _ _) _ _ _) :: _) _) _ _ _)); walk1)))
    (with_reducible rename Fr _ _ _ _ => kF2)
    (with_reducible rename News _ _ _ _ => kN2)
    refine ct_wc (P := w.params) (b := b) kF2 kN2 ?_ ?_
    · clear kF2 kN2
      intro kF kN
      cases b
      all_goals k_steps
      · exact ⟨_, _, _, rfl, by assumption, by assumption⟩
      · exact ⟨_, _, _, rfl, by assumption, by assumption⟩
    · clear kF2 kN2
      intro h' tk t kF kN
      (repeat' (first | (k_unfold; (try dsimp only)) | ((fail_if_success (with_reducible show wpAny _ _ (execs ((Stmt.If _ _ _ _) :: _) _) _ _ _)); walk1)))
      cases pn
      · k_steps
        refine hQv _ _ ?_
        k_steps
        rename News h₀ L _ _ => kN9
        rename Fr h₀ L _ m => kF9
        rename ∀ p, p ∈ rest → _ => hl0
        replace hl0 := allLt_of hl0
        rename _ ∧ _ ∧ _ ∧ _ ∧ _ ∧ AllLt _ rest => hl1
        rename _ ∧ _ ∧ _ ∧ _ ∧ AllLt _ rest => hl2
        rename _ ∧ _ ∧ AllLt _ rest => hl3
        refine hQ rfl _ _ _ _ _ _ _ _ ⟨_, _, _, _, _, _, _, _, _, _, _, _, _, _, _, _, _, _, _, _, _, _, _, _, _, _, _⟩ _ _ _ _ _ _ kF9 hev ?e2 ?e3 ?e4 ?e5 ?e6 ?e7 ?e8 ?e9 ?e10 (ctor_ord kN9)
        all_goals first | assumption | exact hl1.1 | exact hl1.2.1 | exact hl2.1 | exact hl3.1 | exact hl3.2.2 | exact hl2.2.2.2.2 | exact hl1.2.2.2.2.2
      · (repeat' (first | (k_unfold; (try dsimp only)) | ((fail_if_success (with_reducible show wpAny _ _ (inplaceOp Operator.Add (Value.str (Mine.WC _) _) _) _ _ _)); walk1)))
        (with_reducible refine' Mine.wc_add ?_)
        intro t' k'
        (try dsimp only)
        (repeat' (first | (k_unfold; (try dsimp only)) | ((fail_if_success (with_reducible show wpAny _ _ (getMethod (Value.str _ _) _ _) _ _ _)); walk1)))
        k_dflt (refine' Mine.mt_getm ?_)
        intro tk'
        (try dsimp only)
        (repeat' (first | (k_unfold; (try dsimp only)) | ((fail_if_success (with_reducible show wpAny _ _ (getMethod (Value.type "dict") _ _) _ _ _)); walk1)))
        k_dflt (refine' Mine.fk_getm (by k_asm) (by k_asm) (by k_asm) (by k_is) ?_; k_whole)
        intro x' h' F' N' l1
        (try k_lt l1)
        (try k_sweep)
        (repeat' (first | (k_unfold; (try dsimp only)) | ((fail_if_success (with_reducible show wpAny _ _ (callWith _ (Value.ref _) _ (backTo _ (starEach (_ :: _) _)) []) _ _ _)); walk1)))
        k_dflt (refine' Mine.fk_callWith (by k_asm) (by k_mem) ?_; k_whole)
        (repeat' (first | (k_unfold; (try dsimp only)) | ((fail_if_success (with_reducible show Mine.FbAt _ _ ∧ _)); walk1)))
        refine' ⟨News.get (by k_asm) (by k_mem), ?_⟩
        (try dsimp only [List.nil_append, List.cons_append])
        (repeat' (first | (k_unfold; (try dsimp only)) | ((fail_if_success (with_reducible show wpAny _ _ (call (Value.ref _) [Value.str _ _]) _ _ _)); walk1)))
        k_dflt (refine' Mine.fk_callN (by k_asm) (by k_asm) (by k_mem) (Top.nolimit (by k_asm)) (by rfl) (by first | with_reducible assumption | decide +kernel) (by first | with_reducible assumption | decide +kernel) ?_; k_whole)
        intro D' o' h' tk' kvs' F' N' l1 hfk'
        (try k_lt l1)
        (try k_sweep)
        (repeat' (first | (k_unfold; (try dsimp only)) | ((fail_if_success (with_reducible show wpAny _ _ (call (Value.builtin "str.maketrans") _) _ _ _)); walk1)))
        k_dflt (refine' Mine.mt_callN (by k_asm) (by k_asm) (Top.nolimit (by k_asm)) (by assumption) (by first | with_reducible assumption | decide +kernel) ?_; k_whole)
        intro T' o' h' tk' ik' F' N' l1 hmt'
        (try k_lt l1)
        (try k_sweep)
        (repeat' (first | (k_unfold; (try dsimp only)) | ((fail_if_success (with_reducible show wpAny _ _ (getMethod (Value.str _ _) _ _) _ _ _)); walk1)))
        (with_reducible refine Mine.tr_getm ?_)
        (repeat' (first | (k_unfold; (try dsimp only)) | ((fail_if_success (with_reducible show wpAny _ _ (call (Value.builtin "str.translate") _) _ _ _)); walk1)))
        k_dflt (refine' Mine.tr_callN (by k_asm) (by k_asm) (by assumption) (by rfl) (by with_reducible assumption) (by with_reducible assumption) ?_; k_whole)
        intro h' tk' t' F' N'
        (try dsimp only)
        (try k_sweep)
        k_steps
        refine hQv _ _ ?_
        k_steps
        rename News h₀ L _ _ => kN9
        rename Fr h₀ L _ m => kF9
        rename ∀ p, p ∈ rest → _ => hl0
        replace hl0 := allLt_of hl0
        rename _ ∧ _ ∧ _ ∧ _ ∧ _ ∧ _ ∧ AllLt _ rest => hl4
        rename _ ∧ _ ∧ _ ∧ _ ∧ _ ∧ AllLt _ rest => hl1
        rename _ ∧ _ ∧ _ ∧ _ ∧ AllLt _ rest => hl2
        rename _ ∧ _ ∧ AllLt _ rest => hl3
        refine hP rfl _ _ _ _ _ _ _ _ _ ⟨_, _, _, _, _, _, _, _, _, _, _, _, _, _, _, _, _, _, _, _, _, _, _, _, _, _, _⟩ _ _ _ _ _ _ _ kF9 hev ?f2 ?f3 ?f4 ?f5 ?f6 ?f6a ?f7 ?f8 ?f9 ?f10 ?f11 (ctorP_ord kN9)
        all_goals first | assumption | exact hl4.1 | exact hl1.1 | exact hl1.2.1 | exact hl2.1 | exact hl3.1 | exact hl3.2.2 | exact hl2.2.2.2.2 | exact hl1.2.2.2.2.2 | exact hl4.2.2.2.2.2.2
end
end Mine

end
section
namespace Mine
section
variable {prog' : Program} {w : World} {A : Around} {E : Value → Shared → Prop} {Q : Flow → Shared → Prop} {s : Shared} {env : Env} {h₀ : Heap} {x : Str} {body : List Stmt}
/-- one pass of a for loop over a list of strings ends in a state c' -/
def StS {σ : Type} (Led : σ → List (Addr × Obj)) (ps : σ → List (Str × Value)) (x : Str) (stored : List Str) (m₀ : Str → Option Value) (P : List Str → σ → Prop) (pre : List Str) (m : Str → Option Value) (nx : List (Addr × Obj)) : Prop :=
  ∃ c : σ, nx = Led c ∧ (∀ p ∈ ps c, m p.1 = some p.2) ∧ (∀ z, z ≠ x → (∀ p ∈ ps c, z ≠ p.1) → stored.contains z = false → m z = m₀ z) ∧ P pre c
theorem strs_loop {σ : Type} {l : Addr} {vs : List Value} {ws : List Str} {nn : Nat} {m₀ : Str → Option Value} (Led : σ → List (Addr × Obj)) (ps : σ → List (Str × Value)) (stored : List Str) (P : List Str → σ → Prop) (c₀ : σ)
    (hh : A.handled = none) (hi : StrsAre vs ws) (F : Fr h₀ env.locals s.heap m₀) (N : News h₀ env.locals s.heap ((l, listOf vs.toArray nn) :: Led c₀)) (hlt : ∀ p ∈ Led c₀, p.1 ≠ l) (hk : ∀ p ∈ ps c₀, m₀ p.1 = some p.2) (hp : P [] c₀)
    (turn : ∀ (c : σ) pre post n t (u : Str → Option Value) h tk own, ws = pre ++ n :: post → OwnOff own ((Led c₀).map (·.1)) → P pre c →
      Fr h₀ env.locals h (fun y => if y = x then some (.str n t) else kstB (fun z => if stored.contains z then u z else m₀ z) (ps c) y) → News h₀ env.locals h (Led c ++ own) →
      wpAny (model prog' w) A (execs body env) (InvPostN h₀ env.locals (StS Led ps x stored m₀ P (pre ++ [n])) own ((Led c₀).map (·.1)) { s with heap := h, toks := tk } Q) E { s with heap := h, toks := tk })
    (done : ∀ (c : σ) (u : Str → Option Value) h tk, P ws c → Fr h₀ env.locals h (fun y => if y = x then u y else kstB (fun z => if stored.contains z then u z else m₀ z) (ps c) y) → News h₀ env.locals h (Led c) → Q .next { s with heap := h, toks := tk }) :
    wpAny (model prog' w) A (pyIter (.ref l)) (fun it s₂ => LoopAtV prog' w A h₀ env x body Q E it s₂) E s := by
  have hol : s.heap.get? l = some (listOf vs.toArray nn) := (N _ (.head _)).1
  have hls : s.heap.IsList l vs.toArray := ⟨_, hol, rfl, nn, rfl⟩
  have hne : l ≠ s.heap.objs.size := Nat.ne_of_lt (Heap.lt_size hol)
  have N1 : News h₀ env.locals s.heap (Led c₀) := fun p hp => N p (.tail _ hp)
  have hlen : vs.toArray.size = ws.length := by simp [hi.length]
  refine wpAny_pyIter_list hls ?_
  have W := Walks.list (prog := prog') (w := w) hh s.heap.objs.size l hne vs.toArray
  rw [hlen] at W
  refine loop_invN (fun i m nx => StS Led ps x stored m₀ P (ws.take i) m nx) W ?_ ?_ ?_ ?_ ⟨⟨_, Heap.get?_push_size _ rfl, rfl, rfl⟩, hls.at fun o e => Heap.get?_push_of_some _ e⟩ (F.push _) (fun p hp => ⟨Heap.get?_push_of_some _ (N1 p hp).1, (N1 p hp).2⟩) ⟨c₀, rfl, hk, fun _ _ _ _ => rfl, by simpa using hp⟩ ?_ ?_
  · intro hm
    rcases List.mem_cons.mp hm with e | hm
    · exact absurd F.ns.lt (e ▸ Nat.lt_irrefl _)
    · exact (N _ (.head _)).2.1 ((List.mem_singleton.mp hm).symm)
  · intro b hb
    rw [List.mem_singleton.mp hb]
    exact next_is_new F
  · intro p hp hI
    exact absurd (Heap.lt_size (N1 p hp).1) ((List.mem_singleton.mp hI) ▸ Nat.lt_irrefl _)
  · intro p hp hI
    rcases List.mem_cons.mp hI with e | hI
    · exact absurd (Heap.lt_size (N1 p hp).1) (e ▸ Nat.lt_irrefl _)
    · exact hlt p hp (List.mem_singleton.mp hI)
  · rintro i v m₁ nx h tk own hi' hv _ hoff ⟨c, rfl, h1, h2, hp'⟩ F₁ N₁
    obtain ⟨t, hx⟩ := hi.get i ws[i] (List.getElem?_eq_getElem hi')
    have hv' : v = .str ws[i] t := by
      have h3 : vs[i]? = some v := by rw [← List.getElem?_toArray]; exact hv
      rw [hx] at h3
      exact (Option.some.inj h3).symm
    subst hv'
    have hn' : ws[i]? = some ws[i] := List.getElem?_eq_getElem hi'
    have hs : ws.take (i + 1) = ws.take i ++ [ws[i]] := by rw [List.take_add_one, hn']; rfl
    have e : ws = ws.take i ++ ws[i] :: ws.drop (i + 1) := by
      have ht := List.take_append_drop (i + 1) ws
      rw [hs, List.append_assoc] at ht
      exact ht.symm
    rw [hs]
    exact turn c _ _ _ t m₁ h tk own e hoff hp' (kst_fr h1 h2 F₁) N₁
  · rintro m₁ nx h tk ⟨c, rfl, h1, h2, hp'⟩ F₁ N₁
    rw [List.take_length] at hp'
    exact done c m₁ h tk hp' (kst_frOut h1 h2 F₁) N₁
end
end Mine

end
section
local macro_rules | `(tactic| walk_at "execs nil") => `(tactic| (with_reducible refine wpAny_execs_nil ?_))
local macro_rules | `(tactic| walk_at "exec If") => `(tactic| ((try k_fold); with_reducible refine wpAny_If ?_))
local macro_rules | `(tactic| walk_at "ite") => `(tactic| first | with_reducible refine Mine.ite_t ?_ | with_reducible refine Mine.ite_f ?_)
local macro_rules | `(tactic| walk_at "execs cons") => `(tactic| ((try dsimp only); with_reducible refine wpAny_execs_cons ?_))
local macro_rules | `(tactic| walk_at "compareOp In str str") => `(tactic| (k_here; (with_reducible show wpAny _ _ (compareOp CmpOp.In (Value.str (Str.mk #[_]) _) _) _ _ _); (with_reducible refine' Mine.in_ch ?e ?_); (case e => first | with_reducible assumption | rfl); k_whole))
local macro_rules | `(tactic| ktr_unf) => `(tactic| (repeat' (first | (k_unfold; (try dsimp only)) | ((fail_if_success (with_reducible show wpAny _ _ (exec (Stmt.While _ _ _ _) _) _ _ _)); walk1))))
local macro_rules | `(tactic| walk_at "getAttr ref") => `(tactic| (k_here; k_dflt (refine' Mine.get_own5 (by k_asm) (by k_asm) (by k_inst) (by k_is) (by k_is) (by k_is) (by k_is) (by k_get) (by k_handed) ?_; k_whole)))
local macro_rules | `(tactic| walk_at "callWith ref") => `(tactic| (k_here; first
  | ((with_reducible show wpAny _ _ (callWith _ _ _ (backTo _ (starEach [] _)) []) _ _ _); (refine' callWith_K0 (Frag.In.keeps (by with_reducible assumption) (Fr.keep (by assumption))) (by k_is) ?_); k_whole; (try dsimp only [List.nil_append, List.cons_append, List.append_nil]))
  | ((refine' callWith_K (by k_asm) (by k_is) ?_); k_whole)))
local macro_rules | `(tactic| k_handed) => `(tactic| with_reducible assumption)
local macro_rules | `(tactic| walk_at "getAttr ref") => `(tactic| (k_here; k_dflt (refine' get_own (by k_asm) (by k_asm) (by k_inst) (by k_is) (by k_is) (by k_is) (by k_is) (by k_get) (by k_handed) ?_; k_whole)))
local macro_rules | `(tactic| walk_at "leaving ref") => `(tactic| (k_here; (refine' leave_onS ?k1 ?k2 ?k3 ?k4 ?_; (case k3 => assumption); (case k2 => assumption); (case k1 => assumption); (case k4 => assumption); k_whole; intro h' S' R' U'; (try dsimp only at S' R' U' ⊢))))
section
local macro_rules | `(tactic| walk_at "exec For Name Name cons nil") => `(tactic| (k_here; (rename Fr _ _ _ _ => lF'); (with_reducible refine For_invVF lF' ?k1 ?k2 ?_ ?k3 ?k4); (case k1 => exact rfl); (case k2 => exact rfl); (case k3 => exact fun _ => rfl); (case k4 => passes_own); k_whole))
section
namespace Mine
/-! _law_ahead: the row of tokens ahead of the fault -/
inductive K5 where | white | word | run | lone
deriving DecidableEq
def kS : K5 → Str
  | .white => Str.ofString "white"
  | .word => Str.ofString "word"
  | .run => Str.ofString "run"
  | .lone => Str.ofString "lone"
theorem kS_inj (a b : K5) : ((kS a).cps.toList == (kS b).cps.toList) = decide (a = b) := by
  cases a <;> cases b <;> decide +kernel
def kd5 (pn sp : Bool) (c : Nat) : K5 := if c == 124 then (if pn then .run else if sp then .word else .lone) else if (Str.ofString "ab").cps.toList.contains c then .word else .white
def joins (k : K5) : Bool := decide (k = .run) || decide (k = .word)
def astep (pn sp : Bool) (st : List (List Nat) × K5) (c : Nat) : List (List Nat) × K5 :=
  if decide (kd5 pn sp c = st.2) && joins (kd5 pn sp c) then (st.1.dropLast ++ [st.1.getLastD [] ++ [c]], kd5 pn sp c)
  else if decide (kd5 pn sp c = .white) then (st.1, kd5 pn sp c) else (st.1 ++ [[c]], kd5 pn sp c)
def afold (pn sp : Bool) (l : List Nat) : List (List Nat) × K5 := l.foldl (astep pn sp) ([], .white)
theorem afold_snoc (pn sp : Bool) (l : List Nat) (c : Nat) : afold pn sp (l ++ [c]) = astep pn sp (afold pn sp l) c := by
  unfold afold; rw [List.foldl_append]; rfl
structure AS5 where
  rv : List Value
  rn : Nat
  k : K5
  tl : Tok
def AI (pn sp : Bool) (pre : List Int) (c : AS5) : Prop := StrsAre c.rv ((afold pn sp (pre.map Int.toNat)).1.map S) ∧ c.k = (afold pn sp (pre.map Int.toNat)).2
theorem foldl_ne (pn sp : Bool) : ∀ (l : List Nat) (st : List (List Nat) × K5), (joins st.2 = true → st.1 ≠ []) → joins (l.foldl (astep pn sp) st).2 = true → (l.foldl (astep pn sp) st).1 ≠ []
  | [], _, h => h
  | c :: r, st, h => by
    rw [List.foldl_cons]
    refine foldl_ne pn sp r _ ?_
    unfold astep
    split
    · intro _ e; simp at e
    · split
      · rename_i h1 h2
        intro h
        dsimp only at h
        rw [of_decide_eq_true h2] at h
        cases h
      · intro _ e; simp at e
theorem astep_ne (pn sp : Bool) (l : List Nat) : joins (afold pn sp l).2 = true → (afold pn sp l).1 ≠ [] := foldl_ne pn sp l _ (fun h => by cases h)
theorem foldl_len (pn sp : Bool) : ∀ (l : List Nat) (st : List (List Nat) × K5) (n : Nat), (st.1.length ≤ n ∧ ∀ t ∈ st.1, t.length ≤ n) → (l.foldl (astep pn sp) st).1.length ≤ n + l.length ∧ ∀ t ∈ (l.foldl (astep pn sp) st).1, t.length ≤ n + l.length
  | [], _, _, h => h
  | c :: r, st, n, ⟨i1, i2⟩ => by
    rw [List.foldl_cons, List.length_cons]
    have := foldl_len pn sp r (astep pn sp st c) (n + 1) (by
      unfold astep
      split
      · refine ⟨by simp; omega, fun t ht => ?_⟩
        rcases List.mem_append.mp ht with ht | ht
        · exact Nat.le_succ_of_le (i2 t (List.dropLast_subset _ ht))
        · rw [List.mem_singleton.mp ht, List.length_append]
          have : (st.1.getLastD []).length ≤ n := by
            cases e : st.1.getLast? with
            | none => rw [List.getLastD_eq_getLast?, e]; simp
            | some a => rw [List.getLastD_eq_getLast?, e]; exact i2 a (List.mem_of_getLast? e)
          simpa using this
      · split
        · exact ⟨Nat.le_succ_of_le i1, fun t ht => Nat.le_succ_of_le (i2 t ht)⟩
        · refine ⟨by simp; omega, fun t ht => ?_⟩
          rcases List.mem_append.mp ht with ht | ht
          · exact Nat.le_succ_of_le (i2 t ht)
          · rw [List.mem_singleton.mp ht]; simp)
    have e : n + (r.length + 1) = n + 1 + r.length := by omega
    rw [e]
    exact this
theorem aw_len (pn sp : Bool) (l : List Nat) : (afold pn sp l).1.length ≤ l.length ∧ ∀ t ∈ (afold pn sp l).1, t.length ≤ l.length := by
  have := foldl_len pn sp l ([], .white) 0 ⟨Nat.le_refl _, fun t h => nomatch h⟩
  simpa [afold] using this
theorem strs_snoc5 {x : Str} {ws : List Str} : ∀ {vs : List Value}, StrsAre vs (ws ++ [x]) → ∃ us t, vs = us ++ [.str x t] ∧ StrsAre us ws := by
  induction ws with
  | nil =>
    intro vs h
    cases h with
    | cons _ t r =>
      cases r
      exact ⟨[], t, rfl, .nil⟩
  | cons w ws ih =>
    intro vs h
    cases h with
    | cons _ t r =>
      obtain ⟨us, t', rfl, h⟩ := ih r
      exact ⟨.str w t :: us, t', rfl, .cons _ _ h⟩
theorem strs_add5 {x : Str} {t : Tok} {ws : List Str} : ∀ {vs : List Value}, StrsAre vs ws → StrsAre (vs ++ [.str x t]) (ws ++ [x]) := by
  induction ws with
  | nil =>
    intro vs h
    cases h
    exact .cons _ _ .nil
  | cons w ws ih =>
    intro vs h
    cases h with
    | cons _ t r => exact .cons _ _ (ih r)
theorem ai_snoc {pn sp : Bool} {pre : List Int} {n : Nat} : afold pn sp ((pre ++ [(n : Int)]).map Int.toNat) = astep pn sp (afold pn sp (pre.map Int.toNat)) n := by
  rw [List.map_append, List.map_singleton, Int.toNat_natCast, afold_snoc]
/-- the sign goes to the last token -/
theorem ai_join {pn sp : Bool} {pre : List Int} {c : AS5} {n : Nat} {k : K5} (h : AI pn sp pre c) (hk : kd5 pn sp n = k) (he : k = c.k) (hj : joins k = true) : ∃ us l t, c.rv = us ++ [.str (S l) t] ∧ l.length ≤ pre.length ∧ ∀ (t' tl : Tok) (rn : Nat), AI pn sp (pre ++ [(n : Int)]) ⟨us ++ [.str (S (l ++ [n])) t'], rn, k, tl⟩ := by
  obtain ⟨h1, h2⟩ := h
  have hne := astep_ne pn sp (pre.map Int.toNat) (by rw [← h2, ← he]; exact hj)
  obtain ⟨gi, l, e⟩ : ∃ gi l, (afold pn sp (pre.map Int.toNat)).1 = gi ++ [l] := ⟨_, _, (List.dropLast_concat_getLast hne).symm⟩
  rw [e, List.map_append, List.map_singleton] at h1
  obtain ⟨us, t, e2, h4⟩ := strs_snoc5 h1
  refine ⟨us, l, t, e2, ?_, fun t' tl rn => ?_⟩
  · have := (aw_len pn sp (pre.map Int.toNat)).2 l (by rw [e]; simp)
    simpa using this
  · unfold AI
    rw [ai_snoc]
    unfold astep
    rw [hk, e, ← h2]
    have hc : (decide (k = c.k) && joins k) = true := by rw [hj, decide_eq_true he]; rfl
    simp only [hc, if_true]
    refine ⟨?_, trivial⟩
    simp only [List.dropLast_concat, List.getLastD_concat, List.map_append, List.map_singleton]
    exact strs_add5 h4
/-- the sign begins a token -/
theorem ai_new {pn sp : Bool} {pre : List Int} {c : AS5} {n : Nat} {k : K5} {t' tl : Tok} {rn : Nat} (h : AI pn sp pre c) (hk : kd5 pn sp n = k) (he : (decide (k = c.k) && joins k) = false) (hw : k ≠ .white) : AI pn sp (pre ++ [(n : Int)]) ⟨c.rv ++ [.str ⟨#[n]⟩ t'], rn, k, tl⟩ := by
  obtain ⟨h1, h2⟩ := h
  unfold AI
  rw [ai_snoc]
  unfold astep
  rw [hk, ← h2]
  simp only [he, Bool.false_eq_true, if_false, decide_eq_false hw]
  refine ⟨?_, trivial⟩
  rw [List.map_append, List.map_singleton]
  exact strs_add5 h1
theorem ai_white {pn sp : Bool} {pre : List Int} {c : AS5} {n : Nat} {tl : Tok} (h : AI pn sp pre c) (hk : kd5 pn sp n = .white) : AI pn sp (pre ++ [(n : Int)]) ⟨c.rv, c.rn, .white, tl⟩ := by
  obtain ⟨h1, h2⟩ := h
  unfold AI
  rw [ai_snoc]
  unfold astep
  rw [hk]
  have : (decide (K5.white = (afold pn sp (pre.map Int.toNat)).2) && joins K5.white) = false := by simp [joins]
  simp only [this, Bool.false_eq_true, if_false, decide_true, if_true]
  exact ⟨h1, trivial⟩
abbrev ahLed (ra : Addr) (R : List (Addr × Obj)) (c : AS5) : List (Addr × Obj) := (ra, listOf c.rv.toArray c.rn) :: R
abbrev ahPs (ra : Addr) (pn sp : Bool) (c : AS5) : List (Str × Value) := [(Str.ofString "row", .ref ra), (Str.ofString "last", .str (kS c.k) c.tl), (Str.ofString "split", .bool sp), (Str.ofString "punctuation", .bool pn)]
theorem ah_end {g h h2 : Heap} {L : Addr} {s : Shared} {tk tk2 : Nat} {m1 m2 : Str → Option Value} {pn sp : Bool} {n : Nat} {own R N0 : List (Addr × Obj)} {pre : List Int} {ra : Addr} {rv' : List Value} {rva : Array Value} {rn' : Nat} {k' : K5} {tl' : Tok}
  (F : Fr g L h2 m2) (N : News g L h2 N0) (hN : ∀ p ∈ ((ra, listOf rva rn') :: R) ++ own, p ∈ N0) (eg : rva = rv'.toArray)
  (h0 : m2 (Str.ofString "row") = some (.ref ra)) (h1 : m2 (Str.ofString "last") = some (.str (kS k') tl')) (h3 : m2 (Str.ofString "split") = some (.bool sp)) (h4 : m2 (Str.ofString "punctuation") = some (.bool pn))
  (hr : ∀ z, z ≠ Str.ofString "sign" → z ≠ Str.ofString "row" → z ≠ Str.ofString "last" → z ≠ Str.ofString "split" → z ≠ Str.ofString "punctuation" → z ≠ Str.ofString "kind" → m2 z = m1 z)
  (hP : AI pn sp (pre ++ [(n : Int)]) ⟨rv', rn', k', tl'⟩) :
  InvEndN g L (KstS (σ := AS5) (ahLed ra R) (ahPs ra pn sp) (fun _ => True) (Str.ofString "sign") [Str.ofString "kind"] m1 (AI pn sp) (pre ++ [(n : Int)]))
    own (ra :: R.map (·.1)) { s with heap := h, toks := tk } { s with heap := h2, toks := tk2 } := by
  subst eg
  refine ⟨_, _, _, _, (ra, listOf rv'.toArray rn') :: R, rfl, F, N, fun p hp => hN p (List.mem_append_left _ hp), fun p hp => hN p (List.mem_append_right _ hp), rfl, ⟨rv', rn', k', tl'⟩, rfl, trivial, ?_, ?_, hP⟩
  · intro p hp
    simp only [List.mem_cons, List.not_mem_nil, or_false] at hp
    rcases hp with rfl | rfl | rfl | rfl <;> assumption
  · intro z hx hp hs
    refine hr z hx (hp _ (.head _)) (hp _ (.tail _ (.head _))) (hp _ (.tail _ (.tail _ (.head _)))) (hp _ (.tail _ (.tail _ (.tail _ (.head _))))) ?_
    intro e
    subst e
    simp at hs
theorem nk_1 {z a : Str} (h : z ≠ a) : ¬ [a].contains z = true := by
  simp only [List.contains_cons, List.contains_nil, Bool.or_false, beq_iff_eq]; exact h
theorem eq_kS {w : World} {A : Around} {E : Value → Shared → Prop} {s : Shared} {Q : Value → Shared → Prop} {k k' : K5} {y : Str} {t u : Tok} (hy : y = kS k) (h : Q (.bool (decide (k = k'))) s) : wpAny (model prog w) A (compareOp .Eq (.str y t) (.str (kS k') u)) Q E s := by
  subst hy
  refine P.eq_str ?_
  rw [kS_inj]; exact h
theorem eq_bar {w : World} {A : Around} {E : Value → Shared → Prop} {s : Shared} {Q : Value → Shared → Prop} {c : Nat} {t u : Tok} {b : Bool} (e : (c == 124) = b) (h : Q (.bool b) s) : wpAny (model prog w) A (compareOp .Eq (.str ⟨#[c]⟩ t) (.str (Str.ofString "|") u)) Q E s := eq_ch (k := 124) (by decide +kernel) e h
theorem ah_drop {g h : Heap} {L : Addr} {a b : Addr × Obj} {R : List (Addr × Obj)} (N : News g L h (a :: b :: R)) : News g L h (b :: R) := fun p hp => N p (.tail _ hp)
theorem ah_gen {g h : Heap} {L ra : Addr} {rest : List (Addr × Obj)} {m : Str → Option Value} {t : Tok} {pn sp : Bool} (hr : ∀ p ∈ rest, p.1 < ra) (N : News g L h ((ra, listOf #[] 0) :: rest)) (F : Fr g L h (fun y => if y = Str.ofString "last" then some (.str (Str.ofString "white") t) else if y = Str.ofString "row" then some (.ref ra) else m y)) (h1 : m (Str.ofString "split") = some (.bool sp)) (h2 : m (Str.ofString "punctuation") = some (.bool pn)) :
  ∃ m' t ra, (∀ p ∈ rest, p.1 < ra) ∧ News g L h ((ra, listOf #[] 0) :: rest) ∧ Fr g L h m' ∧ ∀ p ∈ ahPs ra pn sp ⟨[], 0, .white, t⟩, m' p.1 = some p.2 := by
  refine ⟨_, t, ra, hr, N, F, ?_⟩
  intro p hp
  simp only [List.mem_cons, List.not_mem_nil, or_false] at hp
  rcases hp with rfl | rfl | rfl | rfl
  · exact rfl
  · exact if_pos rfl
  · exact h1
  · exact h2
end Mine
local macro_rules | `(tactic| walk_at "inplaceOp Add str str") => `(tactic| (k_here; (try dsimp only); (with_reducible show wpAny _ _ (inplaceOp Operator.Add (Value.str (Mine.S _) _) (Value.str (Str.mk #[_]) _)) _ _ _); (with_reducible refine' Mine.add_S ?l ?_); (case l => omega); intro t' k'; (try dsimp only)))
local macro_rules | `(tactic| walk_at "compareOp Eq str str") => `(tactic| (k_here; (with_reducible show wpAny _ _ (compareOp CmpOp.Eq (Value.str (Str.mk #[_]) _) (Value.str (Str.ofString "|") _)) _ _ _); (with_reducible refine' Mine.eq_bar ?e ?_); (case e => with_reducible assumption); k_whole))
local macro_rules | `(tactic| walk_at "compareOp Eq str str") => `(tactic| (k_here; (with_reducible show wpAny _ _ (compareOp CmpOp.Eq (Value.str _ _) (Value.str (Mine.kS _) _)) _ _ _); first | (with_reducible refine' Mine.eq_kS (k := .word) rfl ?_) | (with_reducible refine' Mine.eq_kS (k := .run) rfl ?_) | (with_reducible refine' Mine.eq_kS (k := .lone) rfl ?_) | (with_reducible refine' Mine.eq_kS (k := .white) rfl ?_)))
namespace Mine
section
variable {w : World} {A₀ : Around} {base h₀ : Heap} {outer : List Env} {L : Addr} {m mg mb : Str → Option Value} {loose : List Str} {mean : ExcName → Option Value} {s : Shared} {Q E : Value → Shared → Prop} {p : Program}
  {hdl : Option Value} {d u : Nat} {gs : Option (List Code)} {rest : List (Addr × Obj)} {ns : List (Str × NameKind)} {ig ic : Bool} {mo : List (Str × Const)} {gl bi : Addr} {cs : List (Str × Addr)} {qn : Str} {fo : Option Addr} {cdv : Value}
theorem ahead5 {x : List Nat} {tx : Tok} {pn sp : Bool}
  (B : Below A₀ base outer h₀) (F : Fr h₀ L s.heap m) (X : (hd.heap_1 w.params).In h₀) (T : Top p loose mean mg mb h₀) (hdp : d < 900) (hun : u < 9000)
  (hx : x.length ≤ 1000) (N : News h₀ L s.heap rest)
  (hQ : ∀ h' ra rv rn k, Fr h₀ L h' m → News h₀ L h' ((ra, listOf (rv : List Value).toArray rn) :: rest) → AllLt ra rest → StrsAre rv ((afold pn sp x).1.map S) → Q (.ref ra) { s with heap := h', toks := k })
  : wpAny (model prog w) (ar none d (fenv ns ig ic mo gl cs qn fo cdv bi L :: outer) gs u) (call (.ref 740) [.str (S x) tx, .bool sp, .bool pn]) Q E s := by
  obtain ⟨sH, sG, sD, sT, sO⟩ := s
  dsimp only at F N hQ
  refine wpAny_call ?_
  k_enter
  (repeat' (first | (k_unfold; (try dsimp only)) | ((fail_if_success (with_reducible show wpAny _ _ (pyIter _) _ _ _)); walk1)))
  rename Fr _ _ _ _ => F1
  rename News _ _ _ _ => N1
  obtain ⟨m1, t1, ra0, hra, N1, F1, e0⟩ := ah_gen (pn := pn) (sp := sp) (by assumption) N1 F1 rfl rfl
  refine KStt.kst_text (σ := AS5) (ahLed ra0 rest) (ahPs ra0 pn sp) (fun _ => True) [Str.ofString "kind"] (AI pn sp) ⟨[], 0, .white, t1⟩ rfl F1 N1 trivial e0 ?_ ?_ ?_
  · exact ⟨.nil, rfl⟩
  · rintro ⟨rv, rn, k0, tl0⟩ pre post n t u h tk own hns hoff _ hI F4 N4
    dsimp only [ahLed, ahPs] at F4 N4
    have hpre : pre.length ≤ 1000 := by
      have h7 := congrArg List.length hns
      rw [KStt.codes_length] at h7
      have h9 : (S x).length = x.length := by simp [S, Str.length]
      simp only [List.length_append, List.length_cons] at h7
      omega
    have hrl : rv.length ≤ 1000 := by
      have h7 := hI.1.length
      have h8 := (aw_len pn sp (pre.map Int.toNat)).1
      simp only [List.length_map] at h7 h8
      omega
    refine post_genF ?_
    intro Qv hQv
    have hall : ∀ p ∈ rest ++ own, p.1 ≠ ra0 := by
      intro p hp
      rcases List.mem_append.mp hp with hp | hp
      · exact Nat.ne_of_lt (hra p hp)
      · exact hoff.ne (.head _) p hp
    clear F1 N1
    cases hb : (n == 124) with
    | true =>
      have hab : (Str.ofString "ab").cps.toList.contains n = false := by rw [beq_iff_eq.mp hb]; decide +kernel
      cases pn with
      | true =>
        have hkd : kd5 true sp n = .run := by unfold kd5; rw [hb]; rfl
        by_cases hk0 : K5.run = k0
        · have hdk : decide (K5.run = k0) = true := decide_eq_true hk0
          obtain ⟨us, l, tt, hg, hll, hI2⟩ := ai_join hI hkd hk0 rfl
          dsimp only at hg
          subst hg
          (repeat' (first | (k_unfold; (try dsimp only)) | ((fail_if_success (with_reducible show wpAny _ _ (exec (Stmt.AugAssign _ _ _ _) _) _ _ _)); walk1)))
          (repeat' (first | (k_unfold; (try dsimp only)) | ((fail_if_success (with_reducible show wpAny _ _ (getItem _ _) _ _ _)); walk1)))
          dsimp only
          rename News _ _ _ _ => N5
          refine' gs_get (us := us) (ga := ra0) N5 (by k_mem) ?_
          (repeat' (first | (k_unfold; (try dsimp only)) | ((fail_if_success (with_reducible show wpAny _ _ (setItem _ _ _) _ _ _)); walk1)))
          rename Fr _ _ _ _ => F6
          rename News _ _ _ _ => N6
          replace N6 : News _ _ _ ((ra0, _) :: (rest ++ own)) := ah_drop N6
          refine' gs_set (us := us) (ga := ra0) F6 N6 ?U ?_
          case U => exact Upd.head hall
          intro h6 F7 N7
          clear F6 N6
          k_steps
          (refine hQv _ _ ?_; refine' ah_end (k' := K5.run) ?F ?N ?hN ?eg ?h0 ?h1 ?h3 ?h4 ?hr ?hP; (case F => assumption); (case N => assumption); (case hN => first | exact fun p hp => hp | exact (fun p hp => List.Mem.tail _ hp) | exact (fun p hp => List.Mem.tail _ (List.Mem.tail _ hp))); (case eg => first | rfl | (rw [List.push_toArray])); (case h0 => exact rfl); (case h1 => exact rfl); (case h3 => exact rfl); (case h4 => exact rfl); (case hr => (intro z b1 b2 b3 b4 b5 b6; (have b7 := nk_1 b6); repeat (first | exact rfl | refine Eq.trans (if_neg (by with_reducible assumption)) ?_))); (case hP => exact hI2 _ _ _))
        · have hdk : decide (K5.run = k0) = false := decide_eq_false hk0
          (repeat' (first | (k_unfold; (try dsimp only)) | ((fail_if_success (with_reducible show wpAny _ _ (call (Value.builtin "list.append") _) _ _ _)); walk1)))
          rename Fr _ _ _ _ => F9
          rename News _ _ _ _ => N9
          refine append_K F9 N9 (Upd.head hall) ?_ (by rw [PySem.sizeLine_eq, List.size_toArray]; omega)
          intro h10 F10 N10
          rw [List.push_toArray] at N10
          clear N9 F9
          k_steps
          (refine hQv _ _ ?_; refine' ah_end (k' := K5.run) ?F ?N ?hN ?eg ?h0 ?h1 ?h3 ?h4 ?hr ?hP; (case F => assumption); (case N => assumption); (case hN => first | exact fun p hp => hp | exact (fun p hp => List.Mem.tail _ hp) | exact (fun p hp => List.Mem.tail _ (List.Mem.tail _ hp))); (case eg => first | rfl | (rw [List.push_toArray])); (case h0 => exact rfl); (case h1 => exact rfl); (case h3 => exact rfl); (case h4 => exact rfl); (case hr => (intro z b1 b2 b3 b4 b5 b6; (have b7 := nk_1 b6); repeat (first | exact rfl | refine Eq.trans (if_neg (by with_reducible assumption)) ?_))); (case hP => exact ai_new hI hkd (by rw [hdk]; rfl) (by decide)))
      | false =>
        cases sp with
        | true =>
          have hkd : kd5 false true n = .word := by unfold kd5; rw [hb]; rfl
          by_cases hk0 : K5.word = k0
          · have hdk : decide (K5.word = k0) = true := decide_eq_true hk0
            obtain ⟨us, l, tt, hg, hll, hI2⟩ := ai_join hI hkd hk0 rfl
            dsimp only at hg
            subst hg
            (repeat' (first | (k_unfold; (try dsimp only)) | ((fail_if_success (with_reducible show wpAny _ _ (exec (Stmt.AugAssign _ _ _ _) _) _ _ _)); walk1)))
            (repeat' (first | (k_unfold; (try dsimp only)) | ((fail_if_success (with_reducible show wpAny _ _ (getItem _ _) _ _ _)); walk1)))
            dsimp only
            rename News _ _ _ _ => N5
            refine' gs_get (us := us) (ga := ra0) N5 (by k_mem) ?_
            (repeat' (first | (k_unfold; (try dsimp only)) | ((fail_if_success (with_reducible show wpAny _ _ (setItem _ _ _) _ _ _)); walk1)))
            rename Fr _ _ _ _ => F6
            rename News _ _ _ _ => N6
            replace N6 : News _ _ _ ((ra0, _) :: (rest ++ own)) := ah_drop N6
            refine' gs_set (us := us) (ga := ra0) F6 N6 ?U ?_
            case U => exact Upd.head hall
            intro h6 F7 N7
            clear F6 N6
            k_steps
            (refine hQv _ _ ?_; refine' ah_end (k' := K5.word) ?F ?N ?hN ?eg ?h0 ?h1 ?h3 ?h4 ?hr ?hP; (case F => assumption); (case N => assumption); (case hN => first | exact fun p hp => hp | exact (fun p hp => List.Mem.tail _ hp) | exact (fun p hp => List.Mem.tail _ (List.Mem.tail _ hp))); (case eg => first | rfl | (rw [List.push_toArray])); (case h0 => exact rfl); (case h1 => exact rfl); (case h3 => exact rfl); (case h4 => exact rfl); (case hr => (intro z b1 b2 b3 b4 b5 b6; (have b7 := nk_1 b6); repeat (first | exact rfl | refine Eq.trans (if_neg (by with_reducible assumption)) ?_))); (case hP => exact hI2 _ _ _))
          · have hdk : decide (K5.word = k0) = false := decide_eq_false hk0
            (repeat' (first | (k_unfold; (try dsimp only)) | ((fail_if_success (with_reducible show wpAny _ _ (call (Value.builtin "list.append") _) _ _ _)); walk1)))
            rename Fr _ _ _ _ => F9
            rename News _ _ _ _ => N9
            refine append_K F9 N9 (Upd.head hall) ?_ (by rw [PySem.sizeLine_eq, List.size_toArray]; omega)
            intro h10 F10 N10
            rw [List.push_toArray] at N10
            clear N9 F9
            k_steps
            (refine hQv _ _ ?_; refine' ah_end (k' := K5.word) ?F ?N ?hN ?eg ?h0 ?h1 ?h3 ?h4 ?hr ?hP; (case F => assumption); (case N => assumption); (case hN => first | exact fun p hp => hp | exact (fun p hp => List.Mem.tail _ hp) | exact (fun p hp => List.Mem.tail _ (List.Mem.tail _ hp))); (case eg => first | rfl | (rw [List.push_toArray])); (case h0 => exact rfl); (case h1 => exact rfl); (case h3 => exact rfl); (case h4 => exact rfl); (case hr => (intro z b1 b2 b3 b4 b5 b6; (have b7 := nk_1 b6); repeat (first | exact rfl | refine Eq.trans (if_neg (by with_reducible assumption)) ?_))); (case hP => exact ai_new hI hkd (by rw [hdk]; rfl) (by decide)))
        | false =>
          have hkd : kd5 false false n = .lone := by unfold kd5; rw [hb]; rfl
          by_cases hk0 : K5.lone = k0
          · have hdk : decide (K5.lone = k0) = true := decide_eq_true hk0
            (repeat' (first | (k_unfold; (try dsimp only)) | ((fail_if_success (with_reducible show wpAny _ _ (call (Value.builtin "list.append") _) _ _ _)); walk1)))
            rename Fr _ _ _ _ => F9
            rename News _ _ _ _ => N9
            replace N9 : News _ _ _ ((ra0, _) :: (rest ++ own)) := ah_drop N9
            refine append_K F9 N9 (Upd.head hall) ?_ (by rw [PySem.sizeLine_eq, List.size_toArray]; omega)
            intro h10 F10 N10
            rw [List.push_toArray] at N10
            clear N9 F9
            k_steps
            (refine hQv _ _ ?_; refine' ah_end (k' := K5.lone) ?F ?N ?hN ?eg ?h0 ?h1 ?h3 ?h4 ?hr ?hP; (case F => assumption); (case N => assumption); (case hN => first | exact fun p hp => hp | exact (fun p hp => List.Mem.tail _ hp) | exact (fun p hp => List.Mem.tail _ (List.Mem.tail _ hp))); (case eg => first | rfl | (rw [List.push_toArray])); (case h0 => exact rfl); (case h1 => exact rfl); (case h3 => exact rfl); (case h4 => exact rfl); (case hr => (intro z b1 b2 b3 b4 b5 b6; (have b7 := nk_1 b6); repeat (first | exact rfl | refine Eq.trans (if_neg (by with_reducible assumption)) ?_))); (case hP => exact ai_new hI hkd (by rw [hdk]; rfl) (by decide)))
          · have hdk : decide (K5.lone = k0) = false := decide_eq_false hk0
            (repeat' (first | (k_unfold; (try dsimp only)) | ((fail_if_success (with_reducible show wpAny _ _ (call (Value.builtin "list.append") _) _ _ _)); walk1)))
            rename Fr _ _ _ _ => F9
            rename News _ _ _ _ => N9
            refine append_K F9 N9 (Upd.head hall) ?_ (by rw [PySem.sizeLine_eq, List.size_toArray]; omega)
            intro h10 F10 N10
            rw [List.push_toArray] at N10
            clear N9 F9
            k_steps
            (refine hQv _ _ ?_; refine' ah_end (k' := K5.lone) ?F ?N ?hN ?eg ?h0 ?h1 ?h3 ?h4 ?hr ?hP; (case F => assumption); (case N => assumption); (case hN => first | exact fun p hp => hp | exact (fun p hp => List.Mem.tail _ hp) | exact (fun p hp => List.Mem.tail _ (List.Mem.tail _ hp))); (case eg => first | rfl | (rw [List.push_toArray])); (case h0 => exact rfl); (case h1 => exact rfl); (case h3 => exact rfl); (case h4 => exact rfl); (case hr => (intro z b1 b2 b3 b4 b5 b6; (have b7 := nk_1 b6); repeat (first | exact rfl | refine Eq.trans (if_neg (by with_reducible assumption)) ?_))); (case hP => exact ai_new hI hkd (by rw [hdk]; rfl) (by decide)))
    | false =>
      cases hab : (Str.ofString "ab").cps.toList.contains n with
      | true =>
        have hkd : kd5 pn sp n = .word := by unfold kd5; rw [hb, hab]; rfl
        by_cases hk0 : K5.word = k0
        · have hdk : decide (K5.word = k0) = true := decide_eq_true hk0
          obtain ⟨us, l, tt, hg, hll, hI2⟩ := ai_join hI hkd hk0 rfl
          dsimp only at hg
          subst hg
          (repeat' (first | (k_unfold; (try dsimp only)) | ((fail_if_success (with_reducible show wpAny _ _ (exec (Stmt.AugAssign _ _ _ _) _) _ _ _)); walk1)))
          (repeat' (first | (k_unfold; (try dsimp only)) | ((fail_if_success (with_reducible show wpAny _ _ (getItem _ _) _ _ _)); walk1)))
          dsimp only
          rename News _ _ _ _ => N5
          refine' gs_get (us := us) (ga := ra0) N5 (by k_mem) ?_
          (repeat' (first | (k_unfold; (try dsimp only)) | ((fail_if_success (with_reducible show wpAny _ _ (setItem _ _ _) _ _ _)); walk1)))
          rename Fr _ _ _ _ => F6
          rename News _ _ _ _ => N6
          replace N6 : News _ _ _ ((ra0, _) :: (rest ++ own)) := ah_drop N6
          refine' gs_set (us := us) (ga := ra0) F6 N6 ?U ?_
          case U => exact Upd.head hall
          intro h6 F7 N7
          clear F6 N6
          k_steps
          (refine hQv _ _ ?_; refine' ah_end (k' := K5.word) ?F ?N ?hN ?eg ?h0 ?h1 ?h3 ?h4 ?hr ?hP; (case F => assumption); (case N => assumption); (case hN => first | exact fun p hp => hp | exact (fun p hp => List.Mem.tail _ hp) | exact (fun p hp => List.Mem.tail _ (List.Mem.tail _ hp))); (case eg => first | rfl | (rw [List.push_toArray])); (case h0 => exact rfl); (case h1 => exact rfl); (case h3 => exact rfl); (case h4 => exact rfl); (case hr => (intro z b1 b2 b3 b4 b5 b6; (have b7 := nk_1 b6); repeat (first | exact rfl | refine Eq.trans (if_neg (by with_reducible assumption)) ?_))); (case hP => exact hI2 _ _ _))
        · have hdk : decide (K5.word = k0) = false := decide_eq_false hk0
          (repeat' (first | (k_unfold; (try dsimp only)) | ((fail_if_success (with_reducible show wpAny _ _ (call (Value.builtin "list.append") _) _ _ _)); walk1)))
          rename Fr _ _ _ _ => F9
          rename News _ _ _ _ => N9
          refine append_K F9 N9 (Upd.head hall) ?_ (by rw [PySem.sizeLine_eq, List.size_toArray]; omega)
          intro h10 F10 N10
          rw [List.push_toArray] at N10
          clear N9 F9
          k_steps
          (refine hQv _ _ ?_; refine' ah_end (k' := K5.word) ?F ?N ?hN ?eg ?h0 ?h1 ?h3 ?h4 ?hr ?hP; (case F => assumption); (case N => assumption); (case hN => first | exact fun p hp => hp | exact (fun p hp => List.Mem.tail _ hp) | exact (fun p hp => List.Mem.tail _ (List.Mem.tail _ hp))); (case eg => first | rfl | (rw [List.push_toArray])); (case h0 => exact rfl); (case h1 => exact rfl); (case h3 => exact rfl); (case h4 => exact rfl); (case hr => (intro z b1 b2 b3 b4 b5 b6; (have b7 := nk_1 b6); repeat (first | exact rfl | refine Eq.trans (if_neg (by with_reducible assumption)) ?_))); (case hP => exact ai_new hI hkd (by rw [hdk]; rfl) (by decide)))
      | false =>
        have hkd : kd5 pn sp n = .white := by unfold kd5; rw [hb, hab]; rfl
        by_cases hk0 : K5.white = k0
        · have hdk : decide (K5.white = k0) = true := decide_eq_true hk0
          k_steps
          (refine hQv _ _ ?_; refine' ah_end (k' := K5.white) ?F ?N ?hN ?eg ?h0 ?h1 ?h3 ?h4 ?hr ?hP; (case F => assumption); (case N => assumption); (case hN => first | exact fun p hp => hp | exact (fun p hp => List.Mem.tail _ hp) | exact (fun p hp => List.Mem.tail _ (List.Mem.tail _ hp))); (case eg => first | rfl | (rw [List.push_toArray])); (case h0 => exact rfl); (case h1 => exact rfl); (case h3 => exact rfl); (case h4 => exact rfl); (case hr => (intro z b1 b2 b3 b4 b5 b6; (have b7 := nk_1 b6); repeat (first | exact rfl | refine Eq.trans (if_neg (by with_reducible assumption)) ?_))); (case hP => exact ai_white hI hkd))
        · have hdk : decide (K5.white = k0) = false := decide_eq_false hk0
          k_steps
          (refine hQv _ _ ?_; refine' ah_end (k' := K5.white) ?F ?N ?hN ?eg ?h0 ?h1 ?h3 ?h4 ?hr ?hP; (case F => assumption); (case N => assumption); (case hN => first | exact fun p hp => hp | exact (fun p hp => List.Mem.tail _ hp) | exact (fun p hp => List.Mem.tail _ (List.Mem.tail _ hp))); (case eg => first | rfl | (rw [List.push_toArray])); (case h0 => exact rfl); (case h1 => exact rfl); (case h3 => exact rfl); (case h4 => exact rfl); (case hr => (intro z b1 b2 b3 b4 b5 b6; (have b7 := nk_1 b6); repeat (first | exact rfl | refine Eq.trans (if_neg (by with_reducible assumption)) ?_))); (case hP => exact ai_white hI hkd))
  · rintro ⟨rv, rn, k0, tl0⟩ u h tk _ hI F4 N4
    clear F1 N1
    dsimp only [ahLed, ahPs] at F4 N4
    k_steps
    refine hQ _ ra0 rv rn _ (by assumption) (by assumption) (allLt_of hra) ?_
    have h9 : (KStt.codes (S x)).map Int.toNat = x := by rw [KStt.codes]; simp [S, Function.comp_def]
    have := hI.1
    rw [h9] at this
    exact this
end
end Mine

end
section
namespace Mine
section
variable {w : World} {A₀ : Around} {base h₀ : Heap} {outer : List Env} {L : Addr} {m mg mb : Str → Option Value} {loose : List Str} {mean : ExcName → Option Value} {s : Shared} {Q E : Value → Shared → Prop} {p : Program}
  {hdl : Option Value} {d u : Nat} {gs : Option (List Code)} {rest : List (Addr × Obj)} {ns : List (Str × NameKind)} {ig ic : Bool} {mo : List (Str × Const)} {gl bi : Addr} {cs : List (Str × Addr)} {qn : Str} {fo : Option Addr} {cdv : Value}
def H5 (c : Nat) : Prop := c ∈ [97, 98, 32, 10, 124]
def B5 (c : Nat) : Prop := c ∈ [97, 98]
structure DS5 where
  n : Int
  tn : Tok
  hd : List Nat
  th : Tok
  st : List Nat
  ts : Tok
  inn : List Nat
  ti : Tok
def ps5 (c : DS5) : List (Str × Value) := [(Str.ofString "head", .str (S c.hd) c.th), (Str.ofString "stem", .str (S c.st) c.ts), (Str.ofString "inner", .str (S c.inn) c.ti)]
def DI5 (c : DS5) (b : Nat) : Prop := (∀ a ∈ c.hd, H5 a) ∧ (∀ a ∈ c.st, B5 a) ∧ (∀ a ∈ c.inn, a < 1114112) ∧ c.hd.length + c.st.length + c.inn.length ≤ b
theorem d5_sp {w : World} {A : Around} {E : Value → Shared → Prop} {s : Shared} {Q : Value → Shared → Prop} {l : List Nat} {t u : Tok} (hl : l.length ≤ 100000)
    (h : ∀ t' k, Q (.str (S (l ++ [32])) t') { s with toks := k }) : wpAny (model prog w) A (binaryOp .Add (.str (S l) t) (.str (Str.ofString " ") u)) Q E s := by
  refine PyProof.Rows.add_str (fun t' k => ?_) ?_
  · have e : S l ++ Str.ofString " " = S (l ++ [32]) := by
      rw [sp_is]
      show Str.append _ _ = _
      simp [Str.append, S]
    rw [e]; exact h t' k
  · rw [sp_is]
    simp only [S, Str.length, List.size_toArray, sizeLine]
    have : [32].length = 1 := rfl
    omega
theorem d5_gen {g h : Heap} {L : Addr} {m : Str → Option Value} {t1 t2 t3 : Tok} (F : Fr g L h (fun y => if y = Str.ofString "inner" then some (.str (Str.ofString "") t1) else if y = Str.ofString "stem" then some (.str (Str.ofString "") t2) else if y = Str.ofString "head" then some (.str (Str.ofString "") t3) else m y)) :
  ∃ m' t1 t2 t3, Fr g L h m' ∧ ∀ p ∈ ps5 ⟨0, 0, [], t3, [], t2, [], t1⟩, m' p.1 = some p.2 := by
  refine ⟨_, t1, t2, t3, F, ?_⟩
  intro p hp
  simp only [ps5, List.mem_cons, List.not_mem_nil, or_false] at hp
  rw [← S_nil] at hp
  rcases hp with rfl | rfl | rfl <;> exact rfl
theorem d5_gen2 {g h : Heap} {L : Addr} {m1 u : Str → Option Value} {n : Int} {c : DS5} {v : Value} {t : Tok}
  (F : Fr g L h (fun y => if y = Str.ofString "n" then some (.int n t) else if y = Str.ofString "x" then some v else kstB (fun z => if [Str.ofString "n", Str.ofString "k", Str.ofString "code"].contains z then u z else m1 z) (ps5 c) y)) (hn : n < 16 ^ 9) :
  ∃ m' t n, n < 16 ^ 9 ∧ Fr g L h m' ∧ (∀ p ∈ (Str.ofString "n", Value.int n t) :: ps5 c, m' p.1 = some p.2) ∧
    ∀ z, z ≠ Str.ofString "x" → (z ≠ Str.ofString "head" ∧ z ≠ Str.ofString "stem" ∧ z ≠ Str.ofString "inner") → [Str.ofString "n", Str.ofString "k", Str.ofString "code"].contains z = false → m' z = m1 z := by
  refine ⟨_, t, n, hn, F, ?_, ?_⟩
  · intro p hp
    simp only [ps5, List.mem_cons, List.not_mem_nil, or_false] at hp
    rcases hp with rfl | rfl | rfl | rfl <;> exact rfl
  · intro z hx hp hs
    obtain ⟨b1, b2, b4⟩ := hp
    have b3 : ¬ z = Str.ofString "n" := by intro e; subst e; simp at hs
    simp only [ps5, kstB, hx, b1, b2, b3, b4, hs, if_false, Bool.false_eq_true]
theorem d5_n (x : Int) : x.fmod (16 ^ Int.toNat 8) + 1 < 16 ^ 9 := by
  have h1 : x.fmod (16 ^ Int.toNat 8) < 16 ^ Int.toNat 8 := Int.fmod_lt_of_pos _ (by decide)
  have h2 : (16 : Int) ^ Int.toNat 8 = 4294967296 := by decide
  have h3 : (16 : Int) ^ 9 = 68719476736 := by decide
  omega
theorem d5_q {n : Int} (h : 0 < n) : 0 ≤ (n - 1).fdiv 16 ∧ 16 * (n - 1).fdiv 16 ≤ n - 1 := by
  rw [Int.fdiv_eq_ediv_of_nonneg _ (by decide)]; omega
theorem d5_q2 {n : Int} (h : 0 < n) : ((n - 1).fdiv 16).fdiv 1112064 ≤ (n - 1).fdiv 16 ∧ 0 ≤ ((n - 1).fdiv 16).fdiv 1112064 := by
  have := (d5_q h).1
  rw [Int.fdiv_eq_ediv_of_nonneg _ (show (0 : Int) ≤ 1112064 by decide)]; omega
theorem d5_p {n q : Int} {j a b : Nat} (h : 0 < n) (hq : q ≤ (n - 1).fdiv 16) (hn : n < 16 ^ j) (hl : a + j ≤ b) : ∃ j', q < 16 ^ j' ∧ a + 1 + j' ≤ b := by
  cases j with
  | zero => simp at hn; omega
  | succ j =>
    have := d5_q h
    rw [Int.pow_succ] at hn
    exact ⟨j, by omega, by omega⟩
theorem chr_b (y : Int) : ∃ c', (⟨#[(y.fmod 1112064 + 2048).toNat]⟩ : Str) = ⟨#[c']⟩ ∧ c' < 1114112 :=
  ⟨_, rfl, by have := Int.fmod_lt_of_pos y (show (0 : Int) < 1112064 by decide); omega⟩
theorem chr_c {y : Int} (h : y < 55296) : ∃ c', (⟨#[y.toNat]⟩ : Str) = ⟨#[c']⟩ ∧ c' < 1114112 := ⟨_, rfl, by omega⟩
theorem d5_m {n q : Int} (h : 0 < n) (hq : q ≤ (n - 1).fdiv 16) : q.toNat < n.toNat := by
  have := d5_q h; omega
theorem d5_P {n q : Int} {a j b : Nat} {hd st inn hd' st' in' : List Nat} {tn th ts ti : Tok} (p1 : ∀ c ∈ hd, H5 c) (p2 : ∀ c ∈ st, B5 c) (p4 : ∀ c ∈ inn, c < 1114112) (p3 : hd.length + st.length + inn.length ≤ a) (h : 0 < n) (hq : q ≤ (n - 1).fdiv 16) (hn : n < 16 ^ j) (hl : a + j ≤ b)
    (hc : (∃ c, H5 c ∧ hd' = hd ++ [c] ∧ st' = st ∧ in' = inn) ∨ (∃ c, B5 c ∧ hd' = hd ∧ st' = st ++ [c] ∧ in' = inn) ∨ ∃ c, c < 1114112 ∧ hd' = hd ∧ st' = st ∧ in' = inn ++ [c]) :
    ∃ a', DI5 ⟨q, tn, hd', th, st', ts, in', ti⟩ a' ∧ ∃ j', q < 16 ^ j' ∧ a' + j' ≤ b := by
  obtain ⟨j', h1, h2⟩ := d5_p h hq hn hl
  refine ⟨a + 1, ?_, j', h1, h2⟩
  unfold DI5
  dsimp only
  rcases hc with ⟨c, hc, rfl, rfl, rfl⟩ | ⟨c, hc, rfl, rfl, rfl⟩ | ⟨c, hc, rfl, rfl, rfl⟩
  · refine ⟨fun x hx => ?_, p2, p4, by simp; omega⟩
    rcases List.mem_append.mp hx with hx | hx
    · exact p1 x hx
    · rw [List.mem_singleton.mp hx]; exact hc
  · refine ⟨p1, fun x hx => ?_, p4, by simp; omega⟩
    rcases List.mem_append.mp hx with hx | hx
    · exact p2 x hx
    · rw [List.mem_singleton.mp hx]; exact hc
  · refine ⟨p1, p2, fun x hx => ?_, by simp; omega⟩
    rcases List.mem_append.mp hx with hx | hx
    · exact p4 x hx
    · rw [List.mem_singleton.mp hx]; exact hc
theorem d5_add {w : World} {A : Around} {E : Value → Shared → Prop} {s : Shared} {Q : Value → Shared → Prop} {P : Nat → Prop} {l : List Nat} {y : Str} {t u : Tok} (hc : ∃ c, y = ⟨#[c]⟩ ∧ P c) (hl : l.length ≤ 100000)
    (h : ∀ c t' k, P c → Q (.str (S (l ++ [c])) t') { s with toks := k }) : wpAny (model prog w) A (inplaceOp .Add (.str (S l) t) (.str y u)) Q E s := by
  obtain ⟨c, rfl, hc⟩ := hc
  exact add_S hl fun t' k => h c t' k hc
theorem item_any {x : Str} {P : Nat → Prop} (h : ∀ j : Fin x.cps.toList.length, Txt.item x (j.val : Int) = ⟨#[x.cps.toList[j.val]'j.isLt]⟩) (hP : ∀ c ∈ x.cps.toList, P c) {k : Int} (h0 : 0 ≤ k) (hk : k < x.cps.toList.length) : ∃ c, Txt.item x k = ⟨#[c]⟩ ∧ P c := by
  obtain ⟨j, rfl⟩ := Int.eq_ofNat_of_zero_le h0
  have hj : j < x.cps.toList.length := by omega
  exact ⟨_, h ⟨j, hj⟩, hP _ (List.getElem_mem hj)⟩
theorem item5a {y : Int} (hk : y.fmod 16 < 5) : ∃ c, Txt.item (Str.ofString "ab \n|") (y.fmod 16) = ⟨#[c]⟩ ∧ H5 c :=
  item_any (by decide +kernel) (by unfold H5; decide +kernel) (Int.fmod_nonneg_of_pos _ (by decide)) (by (have : (Str.ofString "ab \n|").cps.toList.length = 5 := (by decide +kernel)); omega)
theorem item5b {k : Int} (h0 : ¬ k < 5) (hk : k < 7) : ∃ c, Txt.item (Str.ofString "ab") (k - 5) = ⟨#[c]⟩ ∧ B5 c :=
  item_any (by decide +kernel) (by unfold B5; decide +kernel) (by omega) (by have : (Str.ofString "ab").cps.toList.length = 2 := by decide +kernel
                                                                             omega)
theorem item5c {k : Int} (h0 : ¬ k < 7) (hk : k < 15) : ∃ c, Txt.item (Str.ofString "a\n '\"#\\|") (k - 7) = ⟨#[c]⟩ ∧ c < 1114112 :=
  item_any (by decide +kernel) (by decide +kernel) (by omega) (by (have : (Str.ofString "a\n '\"#\\|").cps.toList.length = 8 := (by decide +kernel)); omega)
theorem nk_2 {z a b : Str} (h : z ≠ a) (h2 : z ≠ b) : ¬ [a, b].contains z = true := by
  simp only [List.contains_cons, List.contains_nil, Bool.or_false, Bool.or_eq_true, beq_iff_eq]; exact fun e => e.elim h h2
theorem d5_l1 {a b c n j k : Nat} (h : a + b + c ≤ n) (h1 : n + j ≤ 9 * k + 9) (h2 : k ≤ 40) : a ≤ 400 ∧ b ≤ 400 ∧ c ≤ 400 ∧ a + b + c ≤ 9 * k + 9 := by omega
theorem d5_l2 {a b c k : Nat} (h : a + b + c ≤ 9 * k) (h2 : k ≤ 40) : a ≤ 400 := by omega
theorem d5_kend {g h2 : Heap} {L : Addr} {s : Shared} {tk2 : Nat} {m2 m' : Str → Option Value} {n' : Int} {tn' th' ts' ti' : Tok} {hd' st' in' : List Nat} {cc : DS5} {led : List (Addr × Obj)} {P : DS5 → Prop}
  (F : Fr g L h2 m') (N : News g L h2 led) (h0 : m' (Str.ofString "n") = some (.int n' tn')) (h1 : m' (Str.ofString "head") = some (.str (S hd') th')) (h3 : m' (Str.ofString "stem") = some (.str (S st') ts')) (h4 : m' (Str.ofString "inner") = some (.str (S in') ti'))
  (hr : ∀ z, z ≠ Str.ofString "n" → z ≠ Str.ofString "head" → z ≠ Str.ofString "stem" → z ≠ Str.ofString "inner" → z ≠ Str.ofString "k" → z ≠ Str.ofString "code" → m' z = m2 z) (hm : n'.toNat < cc.n.toNat) (hP : P ⟨n', tn', hd', th', st', ts', in', ti'⟩) :
  KswEnd g L s (fun _ : DS5 => led) (fun c => (Str.ofString "n", .int c.n c.tn) :: ps5 c) (fun _ => True) [Str.ofString "k", Str.ofString "code"] m2 P (fun c => c.n.toNat) cc { s with heap := h2, toks := tk2 } := by
  refine ksw_end (σ := DS5) ⟨n', tn', hd', th', st', ts', in', ti'⟩ F N (fun p hp => hp) trivial ?_ ?_ hP hm
  · intro p hp
    simp only [ps5, List.mem_cons, List.not_mem_nil, or_false] at hp
    rcases hp with rfl | rfl | rfl | rfl <;> assumption
  · intro z a1 a2
    refine hr z (a1 _ (.head _)) (a1 _ (.tail _ (.head _))) (a1 _ (.tail _ (.tail _ (.head _)))) (a1 _ (.tail _ (.tail _ (.tail _ (.head _))))) ?_ ?_
    · intro e; subst e; simp at a2
    · intro e; subst e; simp at a2
theorem d5_end {g h h2 : Heap} {L l : Addr} {s : Shared} {tk tk2 nn : Nat} {m1 m2 u2 : Str → Option Value} {x : Int} {c : DS5} {own rest : List (Addr × Obj)} {vs : Array Value} {pre : List Int}
  (F : Fr g L h2 (kstB (fun z => if [Str.ofString "k", Str.ofString "code"].contains z then u2 z else m2 z) ((Str.ofString "n", .int c.n c.tn) :: ps5 c)))
  (N : News g L h2 ((l, listOf vs nn) :: rest ++ own))
  (e5 : ∀ z, z ≠ Str.ofString "x" → (z ≠ Str.ofString "head" ∧ z ≠ Str.ofString "stem" ∧ z ≠ Str.ofString "inner") → [Str.ofString "n", Str.ofString "k", Str.ofString "code"].contains z = false → m2 z = m1 z)
  (hpl : DI5 c (9 * pre.length + 9)) :
  InvEndN g L (KstS (σ := DS5) (fun c => (l, listOf vs nn) :: rest) ps5 (fun _ => True) (Str.ofString "x") [Str.ofString "n", Str.ofString "k", Str.ofString "code"] m1 (fun pre c => DI5 c (9 * pre.length)) (pre ++ [x]))
    own (((l, listOf vs nn) :: rest).map (·.1)) { s with heap := h, toks := tk } { s with heap := h2, toks := tk2 } := by
  refine ⟨_, _, _, _, (l, listOf vs nn) :: rest, rfl, F, N, fun p hp => List.mem_append_left _ hp, fun p hp => List.mem_append_right _ hp, rfl, c, rfl, trivial, ?_, ?_, ?_⟩
  · intro p hp
    simp only [ps5, List.mem_cons, List.not_mem_nil, or_false] at hp
    rcases hp with rfl | rfl | rfl <;> exact rfl
  · intro z hx hp hs
    have b1 := hp _ (.head _)
    have b2 := hp _ (.tail _ (.head _))
    have b4 := hp _ (.tail _ (.tail _ (.head _)))
    dsimp only at b1 b2 b4
    have b3 : ¬ z = Str.ofString "n" := by intro e; subst e; simp at hs
    have b5 : [Str.ofString "k", Str.ofString "code"].contains z = false := by
      simp only [List.contains_cons, Bool.or_eq_false_iff] at hs ⊢
      exact hs.2
    simp only [ps5, kstB, b1, b2, b3, b4, b5, if_false, Bool.false_eq_true]
    exact e5 z hx ⟨b1, b2, b4⟩ hs
  · simp only [List.length_append, List.length_singleton]
    exact hpl
end
end Mine
local macro_rules | `(tactic| walk_at "inplaceOp Add str str") => `(tactic| (k_here; (try dsimp only); with_reducible refine' Mine.d5_add ?c ?l ?_; (case c => first | exact Mine.item5a ‹_› | exact Mine.item5b ‹_› ‹_› | exact Mine.item5c ‹_› ‹_› | exact Mine.chr_b _ | exact Mine.chr_c ‹_›); (case l => exact Mine.lz ‹_› rfl); intro c' t' k' hc'; (try dsimp only)))
local macro_rules | `(tactic| walk_at "binaryOp Add str str") => `(tactic| (k_here; with_reducible refine' Mine.d5_sp ?l ?_; (case l => exact Mine.lz ‹_› rfl); intro t' k'; (try dsimp only)))
namespace Mine
section
variable {w : World} {A₀ : Around} {base h₀ : Heap} {outer : List Env} {L : Addr} {m mg mb : Str → Option Value} {loose : List Str} {mean : ExcName → Option Value} {s : Shared} {Q E : Value → Shared → Prop} {p : Program}
  {hdl : Option Value} {d u : Nat} {gs : Option (List Code)} {rest : List (Addr × Obj)} {ns : List (Str × NameKind)} {ig ic : Bool} {mo : List (Str × Const)} {gl bi : Addr} {cs : List (Str × Addr)} {qn : Str} {fo : Option Addr} {cdv : Value}
theorem draw5 {l : Addr} {vs : List Value} {nums : List Int} {nn : Nat}
  (B : Below A₀ base outer h₀) (F : Fr h₀ L s.heap m) (X : (hd.heap_1 w.params).In h₀) (T : Top p loose mean mg mb h₀) (hdp : d < 900) (hun : u < 9000)
  (hi : IntsAre vs nums) (hlen : nums.length ≤ 40)
  (N : News h₀ L s.heap ((l, listOf vs.toArray nn) :: rest))
  (hQ : ∀ h' hd st inn t1 t2 t3 k q, Fr h₀ L h' m → News h₀ L h' ((q, { cls := .type "tuple", data := .seq #[.str (S (hd ++ [32])) t1, .str (S st) t2, .str (S inn) t3] }) :: (l, listOf vs.toArray nn) :: rest) → (∀ c ∈ hd, H5 c) → (∀ c ∈ st, B5 c) → (∀ c ∈ inn, c < 1114112) → hd.length + st.length + inn.length ≤ 9 * nums.length → Q (.ref q) { s with heap := h', toks := k })
  : wpAny (model prog w) (ar none d (fenv ns ig ic mo gl cs qn fo cdv bi L :: outer) gs u) (call (.ref 733) [.ref l]) Q E s := by
  refine wpAny_call ?_
  k_enter
  (repeat' (first | (k_unfold; (try dsimp only)) | ((fail_if_success (with_reducible show wpAny _ _ (pyIter _) _ _ _)); walk1)))
  rename Fr _ _ _ _ => F1
  rename News _ _ _ _ => N1
  obtain ⟨m1, t1, t2, t3, F1, e0⟩ := d5_gen F1
  refine kst_listL (σ := DS5) (fun c => (l, listOf vs.toArray nn) :: rest) ps5 (fun _ => True) ([Str.ofString "n", Str.ofString "k", Str.ofString "code"]) (fun pre c => DI5 c (9 * pre.length)) ⟨0, 0, [], t3, [], t2, [], t1⟩ rfl (fun _ => .head _) hi F1 N1 trivial e0 ?_ ?_ ?_
  · exact ⟨by simp, by simp, by simp, by simp⟩
  · rintro ⟨n0, tn0, hd, th, st, ts, inn, ti⟩ pre post x tx0 u h tk own hns hxm hoff _ hpl F2 N2
    clear F1 N1
    (try dsimp only at F2)
    (try dsimp only at N2)
    ktr_unf
    rename Fr _ _ _ _ => F1
    rename News _ _ _ _ => N1
    obtain ⟨m2, tn2, n2, hn2, F1, e2, e5⟩ := d5_gen2 (c := ⟨n0, tn0, hd, th, st, ts, inn, ti⟩) F1 (d5_n x)
    refine ksw_while (σ := DS5) (fun c => (l, listOf vs.toArray nn) :: rest ++ own) (fun c => (Str.ofString "n", .int c.n c.tn) :: ps5 c) (fun _ => True) ([Str.ofString "k", Str.ofString "code"])
      (fun c => ∃ a : Nat, DI5 c a ∧ ∃ j : Nat, c.n < 16 ^ j ∧ a + j ≤ 9 * pre.length + 9) (fun c => c.n.toNat) ⟨n2, tn2, hd, th, st, ts, inn, ti⟩ F1 N1 trivial e2 ?_ ?_ ?_
    · exact ⟨9 * pre.length, hpl, 9, hn2, by omega⟩
    · clear F1 N1 F2 N2 hQ e2 e0 hpl N F hxm
      rintro ⟨n1, tn1, hd1, th1, st1, ts1, in1, ti1⟩ u2 h2 tk2 _ ⟨a, hpl, j, hnj, hl9⟩ F2 N2
      dsimp only [ps5] at F2 N2 hpl hl9 hnj
      have hpre : pre.length ≤ 40 := by rw [hns] at hlen; simp at hlen; omega
      obtain ⟨p1, p2, p4, p3⟩ := hpl
      dsimp only at p1 p2 p3 p4
      obtain ⟨q1, q2, q3, q4⟩ := d5_l1 p3 hl9 hpre
      (repeat' (first | (k_unfold; (try dsimp only)) | ((fail_if_success (with_reducible show wpAny _ _ (execs (Stmt.Assign [Expr.Tuple _ _ _] _ _ :: _) _) _ _ _)); walk1)))
      rotate_left
      · (exact d5_end (c := ⟨n1, tn1, hd1, th1, st1, ts1, in1, ti1⟩) (by assumption) (by assumption) e5 ⟨p1, p2, p4, q4⟩)
      · refine post_genF ?_
        intro Qv hQv
        k_steps
        all_goals (refine hQv _ _ ?_; (refine' d5_kend ?F ?N ?h0 ?h1 ?h3 ?h4 ?hr ?hm ?hP; (case F => assumption); (case N => first | assumption | exact news_tl (by assumption) | exact news_tl (news_tl (by assumption))); (case h0 => exact rfl); (case h1 => exact rfl); (case h3 => exact rfl); (case h4 => exact rfl); (case hr => (intro z b1 b2 b3 b4 b5 b6; (have b7 := nk_2 b5 b6); repeat (first | exact rfl | refine Eq.trans (if_neg (by with_reducible assumption)) ?_))); (case hm => exact d5_m (by assumption) (by first | exact Int.le_refl _ | exact (d5_q2 (by assumption)).1)); (case hP => exact d5_P p1 p2 p4 p3 (by assumption) (by first | exact Int.le_refl _ | exact (d5_q2 (by assumption)).1) hnj hl9 (by first | exact .inl ⟨_, by assumption, rfl, rfl, rfl⟩ | exact .inr (.inl ⟨_, by assumption, rfl, rfl, rfl⟩) | exact .inr (.inr ⟨_, by assumption, rfl, rfl, rfl⟩)))))
    · passes_own
  · rintro ⟨n0, tn0, hd, th, st, ts, inn, ti⟩ u h tk _ ⟨p1, p2, p4, p3⟩ F2 N2
    clear F1 N1
    dsimp only [ps5] at F2
    have q1 := d5_l2 p3 hlen
    (try dsimp only at p1)
    (try dsimp only at p2)
    (try dsimp only at p3)
    (try dsimp only at p4)
    k_steps
    exact hQ _ hd st inn _ _ _ _ _ (by assumption) (by assumption) p1 p2 p4 p3
end
end Mine

end
end
section
section
namespace Mine
section
variable {w : World} {A₀ : Around} {base h₀ : Heap} {outer : List Env} {L : Addr} {m mg mb : Str → Option Value} {loose : List Str} {mean : ExcName → Option Value} {s : Shared} {Q E : Value → Shared → Prop} {p : Program}
  {hdl : Option Value} {d u : Nat} {gs : Option (List Code)} {rest : List (Addr × Obj)} {ns : List (Str × NameKind)} {ig ic : Bool} {mo : List (Str × Const)} {gl bi : Addr} {cs : List (Str × Addr)} {qn : Str} {fo : Option Addr} {cdv : Value}
/-- self.punctuation_chars -/
theorem get_punct {lx dx io pb fs : Addr} {wc cm pu tkx : Str} {lt1 : LxT} {ex : List DictEntry} {b sp : Bool} {ev f sv : Value} {ln : Int} {tl tt : Tok} {expr : Bool}
  (N : News h₀ L s.heap rest) (hm1 : (lx, instObj 722 dx) ∈ rest) (hm2 : (dx, lexG w.params lt1 b sp ev cm wc pu pb fs io f sv ln tl tkx tt ex) ∈ rest)
  (B : Below A₀ base outer h₀) (F : Fr h₀ L s.heap m) (X : (hd.heap_1 w.params).In h₀) (T : Top p loose mean mg mb h₀) (hdp : d < 980) (hun : u < 9800)
  (hQ : ∀ h' k, Fr h₀ L h' m → News h₀ L h' rest → Q (.str pu lt1.c18) { s with heap := h', toks := k })
  : wpAny (model prog w) (ar hdl d (fenv ns ig ic mo gl cs qn fo cdv bi L :: outer) gs u) (getAttr (.ref lx) (Str.ofString "punctuation_chars") expr) Q E s := by
  have N0 : News h₀ L s.heap ((lx, instObj 722 dx) :: (dx, lexG w.params lt1 b sp ev cm wc pu pb fs io f sv ln tl tkx tt ex) :: rest) := by
    intro p hp
    rcases List.mem_cons.mp hp with rfl | hp
    · exact N _ hm1
    · rcases List.mem_cons.mp hp with rfl | hp
      · exact N _ hm2
      · exact N _ hp
  clear N
  k_steps
  exact hQ _ _ (by assumption) (news_tl (news_tl (by assumption)))
end
end Mine

end
section
namespace Mine
/-! the lexer's ledger folded: what never changes (K), and what read_token changes -/
structure GK where
  kt : IoT
  T : LxT
  ev : Value
  f : Value
  io : Addr
  iod : Addr
  lx : Addr
  dx : Addr
  fs : Addr
def lgG (P : Params) (K : GK) (pb pc : Addr) (x wc cm pu : Str) (ex : List DictEntry) (b sp : Bool) (sv : Value) (ln : Int) (tl : Tok) (tok : Str) (tt : Tok) (pos : Nat) (tp : Tok) (pcv : List Value) (pcn : Int) (rest : List (Addr × Obj)) : List (Addr × Obj) :=
  (K.io, instObj 587 K.iod) :: (K.iod, ioD P K.kt x pos tp) :: (pc, dqO pcv pcn) :: (K.lx, instObj 722 K.dx) :: (K.dx, lexG P K.T b sp K.ev cm wc pu pb K.fs K.io K.f sv ln tl tok tt ex) :: rest
structure ApG (K : GK) (pc : Addr) (rest : List (Addr × Obj)) : Prop where
  o : @LT.lt Nat _ K.iod K.io
  i1 : @Ne Nat pc K.iod
  i2 : @Ne Nat K.lx K.iod
  i3 : @Ne Nat K.dx K.iod
  i4 : ∀ p ∈ rest, p.1 ≠ K.iod
  d1 : @Ne Nat K.io K.dx
  d3 : @Ne Nat pc K.dx
  d4 : @Ne Nat K.lx K.dx
  d5 : ∀ p ∈ rest, p.1 ≠ K.dx
  c1 : @Ne Nat K.io pc
  c3 : @Ne Nat K.lx pc
  c5 : ∀ p ∈ rest, p.1 ≠ pc
theorem apG {K : GK} {pc : Addr} {rest : List (Addr × Obj)} (h1 : @LT.lt Nat _ K.dx K.lx) (h2 : @LT.lt Nat _ K.lx K.iod) (h3 : @LT.lt Nat _ K.iod K.io) (h4 : @LT.lt Nat _ K.io pc) (hr1 : ∀ p ∈ rest, p.1 ≠ K.iod) (hr2 : ∀ p ∈ rest, p.1 ≠ K.dx) (hr3 : ∀ p ∈ rest, p.1 ≠ pc) : ApG K pc rest := by
  have a1 := Nat.lt_trans h3 h4
  have a2 := Nat.lt_trans h1 h2
  have a3 := Nat.lt_trans a2 h3
  have a4 := Nat.lt_trans a3 h4
  have a5 := Nat.lt_trans h2 a1
  exact ⟨h3, Nat.ne_of_gt a1, Nat.ne_of_lt h2, Nat.ne_of_lt a2, hr1, Nat.ne_of_gt a3, Nat.ne_of_gt a4, Nat.ne_of_gt h1, hr2, Nat.ne_of_lt h4, Nat.ne_of_lt a5, hr3⟩
section
variable {w : World} {A : Around} {E : Value → Shared → Prop} {s : Shared} {L : Addr} {h₀ : Heap} {m : Str → Option Value} {K : GK} {pb pc : Addr} {x wc cm pu : Str} {ex : List DictEntry} {b sp : Bool} {sv : Value} {ln : Int} {tl : Tok} {tok : Str} {tt : Tok} {pos : Nat} {tp : Tok} {pcv : List Value} {pcn : Int} {rest l : List (Addr × Obj)} {name : Str} {v v0 : Value} {expr : Bool}
theorem ng_own {P : Params} : ∀ p ∈ lgG P K pb pc x wc cm pu ex b sp sv ln tl tok tt pos tp pcv pcn rest, p ∈ lgG P K pb pc x wc cm pu ex b sp sv ln tl tok tt pos tp pcv pcn rest := fun _ h => h
theorem ng_one {P : Params} {a : Addr × Obj} : ∀ p ∈ lgG P K pb pc x wc cm pu ex b sp sv ln tl tok tt pos tp pcv pcn rest, p ∈ a :: lgG P K pb pc x wc cm pu ex b sp sv ln tl tok tt pos tp pcv pcn rest := fun _ h => .tail _ h
theorem get_ng {Q : Value → Shared → Prop} {attr : Option Value} (F : Fr h₀ L s.heap m) (X₀ : (hd.heap_1 w.params).In h₀) (N : News h₀ L s.heap l) (hs : ∀ p ∈ lgG w.params K pb pc x wc cm pu ex b sp sv ln tl tok tt pos tp pcv pcn rest, p ∈ l)
    (hg : plainGet (hd.heap_1 w.params) 722 name = true) (hh : hasDictIn (hd.heap_1 w.params) 722 = true) (ha : findIn (hd.heap_1 w.params) (.ref 722) name = some attr) (hn : noGet (hd.heap_1 w.params) attr = true)
    (hl : getL name (esG w.params K.T b sp K.ev cm wc pu pb K.fs K.io K.f sv ln tl tok tt) = some (some v)) (hv : handedIn v = true) (h : Q v { s with toks := s.toks + 1 }) :
    wpAny (model prog w) A (getAttr (.ref K.lx) name expr) Q E s :=
  get_own F X₀ (InstAt.of_news N (hs _ (.tail _ (.tail _ (.tail _ (.head _))))) (hs _ (.tail _ (.tail _ (.tail _ (.tail _ (.head _))))))) hg hh ha hn (getL_app hl) hv h
theorem get_ng2 {Q : Value → Shared → Prop} {attr : Option Value} (F : Fr h₀ L s.heap m) (X₀ : (hd.heap_1 w.params).In h₀) (N : News h₀ L s.heap l) (hs : ∀ p ∈ lgG w.params K pb pc x wc cm pu ex b sp sv ln tl tok tt pos tp pcv pcn rest, p ∈ l)
    (hg : plainGet (hd.heap_1 w.params) 722 name = true) (hh : hasDictIn (hd.heap_1 w.params) 722 = true) (ha : findIn (hd.heap_1 w.params) (.ref 722) name = some attr) (hn : noGet (hd.heap_1 w.params) attr = true)
    (hl : getL name (app5 (esG w.params K.T b sp K.ev cm wc pu pb K.fs K.io K.f sv ln tl tok tt) ex) = some (some v)) (hv : handedIn v = true) (h : Q v { s with toks := s.toks + 1 }) :
    wpAny (model prog w) A (getAttr (.ref K.lx) name expr) Q E s :=
  get_own F X₀ (InstAt.of_news N (hs _ (.tail _ (.tail _ (.tail _ (.head _))))) (hs _ (.tail _ (.tail _ (.tail _ (.tail _ (.head _))))))) hg hh ha hn hl hv h
theorem meth_ng {pl : Sem Bool} {Q : Value × List Value → Shared → Prop} (F : Fr h₀ L s.heap m) (X₀ : (hd.heap_1 w.params).In h₀) (N : News h₀ L s.heap l) (hs : ∀ p ∈ lgG w.params K pb pc x wc cm pu ex b sp sv ln tl tok tt pos tp pcv pcn rest, p ∈ l)
    (h : Q (.ref 533, [.ref K.io]) s) : wpAny (model prog w) A (getMethod (.ref K.io) (Str.ofString "read") pl) Q E s :=
  method_inst F X₀ (InstAt.of_news N (hs _ (.head _)) (hs _ (.tail _ (.head _)))) (C := 587) (by k_is) (by k_is) (by k_is) (by k_get) h
theorem set_ng {Q : Unit → Shared → Prop} {sv' : Value} {ln' : Int} {tl' : Tok} {tok' : Str} {tt' : Tok} (F : Fr h₀ L s.heap m) (X₀ : (hd.heap_1 w.params).In h₀) (N : News h₀ L s.heap l) (hs : ∀ p ∈ lgG w.params K pb pc x wc cm pu ex b sp sv ln tl tok tt pos tp pcv pcn rest, p ∈ l)
    (hA : ApG K pc rest) (hex : ex.length ≤ 1) (ht : takerIn (hd.heap_1 w.params) 722 name = some none) (hl : getL name (esG w.params K.T b sp K.ev cm wc pu pb K.fs K.io K.f sv ln tl tok tt) = some (some v0))
    (e : (putL name (PyData.keyHash w.params name) (.str name (s.toks + 1)) v (esG w.params K.T b sp K.ev cm wc pu pb K.fs K.io K.f sv ln tl tok tt), putN name (esG w.params K.T b sp K.ev cm wc pu pb K.fs K.io K.f sv ln tl tok tt) 19) = (esG w.params K.T b sp K.ev cm wc pu pb K.fs K.io K.f sv' ln' tl' tok' tt', 19))
    (h : ∀ h' k, Fr h₀ L h' m → News h₀ L h' (lgG w.params K pb pc x wc cm pu ex b sp sv' ln' tl' tok' tt' pos tp pcv pcn rest) → Q () { s with heap := h', toks := k }) :
    wpAny (model prog w) A (setAttr (.ref K.lx) name v) Q E s := by
  have N1 : News h₀ L s.heap (lgG w.params K pb pc x wc cm pu ex b sp sv ln tl tok tt pos tp pcv pcn rest) := fun p hp => N p (hs p hp)
  exact set_dict5 F X₀ N1 (InstAt.of_news N1 (.tail _ (.tail _ (.tail _ (.head _)))) (.tail _ (.tail _ (.tail _ (.tail _ (.head _)))))) rfl (by k_is) (by k_is) ht (by k_is) hl e
    (.tail hA.d1 (.tail (Ne.symm hA.i3) (.tail hA.d3 (.tail hA.d4 (.head hA.d5))))) (Nat.le_of_ble_eq_true rfl) hex h
theorem dqm_ng {M : Model} {id : String} {pl : Sem Bool} {P : Params} {Q : Value × List Value → Shared → Prop} (slot : Slot "collections.deque" name id) (hty : typeOf (.builtin id) = pure (.type "method_descriptor")) (N : News h₀ L s.heap l) (hs : ∀ p ∈ lgG P K pb pc x wc cm pu ex b sp sv ln tl tok tt pos tp pcv pcn rest, p ∈ l)
    (h : Q (.builtin id, [.ref pc]) s) : wpAny M A (getMethod (.ref pc) name pl) Q E s := dq_method slot hty N (hs _ (.tail _ (.tail _ (.head _)))) h
theorem dqt_ng {P : Params} {Q : Bool → Shared → Prop} (N : News h₀ L s.heap l) (hs : ∀ p ∈ lgG P K pb pc x wc cm pu ex b sp sv ln tl tok tt pos tp pcv pcn rest, p ∈ l) (hz : pcv.length ≤ 900000)
    (h : Q (!pcv.isEmpty) { s with toks := s.toks + 1 + 1 }) : wpAny (model prog w) A (truthy (.ref pc)) Q E s := dq_truthy N (hs _ (.tail _ (.tail _ (.head _)))) hz h
theorem updc_ng {P : Params} {pcv' : List Value} {pcn' : Int} (hA : ApG K pc rest) : Upd pc (dqO pcv pcn) (dqO pcv' pcn') (lgG P K pb pc x wc cm pu ex b sp sv ln tl tok tt pos tp pcv pcn rest) (lgG P K pb pc x wc cm pu ex b sp sv ln tl tok tt pos tp pcv' pcn' rest) :=
  .tail hA.c1 (.tail (Ne.symm hA.i1) (.head fun p hp => by
    rcases List.mem_cons.mp hp with rfl | hp
    · exact hA.c3
    · rcases List.mem_cons.mp hp with rfl | hp
      · exact Ne.symm hA.d3
      · exact hA.c5 p hp))
theorem dqp_ng {Q : Value → Shared → Prop} (F : Fr h₀ L s.heap m) (N : News h₀ L s.heap l) (hs : ∀ p ∈ lgG w.params K pb pc x wc cm pu ex b sp sv ln tl tok tt pos tp [v] pcn rest, p ∈ l) (hA : ApG K pc rest)
    (h : ∀ h', Fr h₀ L h' m → News h₀ L h' (lgG w.params K pb pc x wc cm pu ex b sp sv ln tl tok tt pos tp [] (pcn + 1) rest) → Q v { s with heap := h' }) : wpAny (model prog w) A (call (.builtin "collections.deque.pop") [.ref pc]) Q E s :=
  dq_pop1 F (fun p hp => N p (hs p hp)) (updc_ng hA) h
theorem dqa_ng {Q : Value → Shared → Prop} (F : Fr h₀ L s.heap m) (N : News h₀ L s.heap l) (hs : ∀ p ∈ lgG w.params K pb pc x wc cm pu ex b sp sv ln tl tok tt pos tp [] pcn rest, p ∈ l) (hA : ApG K pc rest)
    (h : ∀ h', Fr h₀ L h' m → News h₀ L h' (lgG w.params K pb pc x wc cm pu ex b sp sv ln tl tok tt pos tp [v] (pcn + 1) rest) → Q .none { s with heap := h' }) : wpAny (model prog w) A (call (.builtin "collections.deque.append") [.ref pc, v]) Q E s :=
  dq_append1 F (fun p hp => N p (hs p hp)) (updc_ng hA) h
theorem dql_ng {Q : Value → Shared → Prop} (F : Fr h₀ L s.heap m) (N : News h₀ L s.heap l) (hs : ∀ p ∈ lgG w.params K pb pc x wc cm pu ex b sp sv ln tl tok tt pos tp [] pcn rest, p ∈ l) (hA : ApG K pc rest)
    (h : ∀ h', Fr h₀ L h' m → News h₀ L h' (lgG w.params K pb pc x wc cm pu ex b sp sv ln tl tok tt pos tp [v] (pcn + 1) rest) → Q .none { s with heap := h' }) : wpAny (model prog w) A (call (.builtin "collections.deque.appendleft") [.ref pc, v]) Q E s :=
  dq_appendleft1 F (fun p hp => N p (hs p hp)) (updc_ng hA) h
end
section
variable {w : World} {A₀ : Around} {base h₀ : Heap} {outer : List Env} {L : Addr} {m mg mb : Str → Option Value} {loose : List Str} {mean : ExcName → Option Value} {s : Shared} {Q E : Value → Shared → Prop} {p : Program}
  {hdl : Option Value} {d u : Nat} {gs : Option (List Code)} {rest : List (Addr × Obj)} {ns : List (Str × NameKind)} {ig ic : Bool} {mo : List (Str × Const)} {gl bi : Addr} {cs : List (Str × Addr)} {qn : Str} {fo : Option Addr} {cdv : Value}
variable {K : GK} {pb pc : Addr} {x wc cm pu : Str} {ex : List DictEntry} {b sp : Bool} {sv : Value} {ln : Int} {tl : Tok} {tok : Str} {tt : Tok} {pos : Nat} {tp : Tok} {pcv : List Value} {pcn : Int} {l : List (Addr × Obj)} {tk1 : Tok}
theorem i_ng {P : Params} (hA : ApG K pc rest) : ∀ p ∈ (pc, dqO pcv pcn) :: (K.lx, instObj 722 K.dx) :: (K.dx, lexG P K.T b sp K.ev cm wc pu pb K.fs K.io K.f sv ln tl tok tt ex) :: rest, p.1 ≠ K.iod := by
  intro p hp
  rcases List.mem_cons.mp hp with rfl | hp
  · exact hA.i1
  · rcases List.mem_cons.mp hp with rfl | hp
    · exact hA.i2
    · rcases List.mem_cons.mp hp with rfl | hp
      · exact hA.i3
      · exact hA.i4 p hp
theorem rdc_ng {c : Nat} {r : List Nat} (N : News h₀ L s.heap l) (hs : ∀ p ∈ lgG w.params K pb pc x wc cm pu ex b sp sv ln tl tok tt pos tp pcv pcn rest, p ∈ l) (hc : x.cps.toList.drop pos = c :: r) (hA : ApG K pc rest)
  (B : Below A₀ base outer h₀) (F : Fr h₀ L s.heap m) (X : (hd.heap_1 w.params).In h₀) (T : Top p loose mean mg mb h₀) (hdp : d < 980) (hun : u < 9800)
  (hx : x.length ≤ 100000)
  (hR : ∀ h' t t' k, Fr h₀ L h' m → News h₀ L h' (lgG w.params K pb pc x wc cm pu ex b sp sv ln tl tok tt (pos + 1) t' pcv pcn rest) → Q (.str ⟨#[c]⟩ t) { s with heap := h', toks := k })
  : wpAny (model prog w) (ar hdl d (fenv ns ig ic mo gl cs qn fo cdv bi L :: outer) gs u) (call (.ref 533) [.ref K.io, .int 1 tk1]) Q E s :=
  read_c B F X T hdp hun hA.o hx (i_ng hA) hc (fun p hp => N p (hs p hp)) hR
theorem rde_ng (N : News h₀ L s.heap l) (hs : ∀ p ∈ lgG w.params K pb pc x wc cm pu ex b sp sv ln tl tok tt pos tp pcv pcn rest, p ∈ l) (hc : x.cps.toList.drop pos = []) (hA : ApG K pc rest)
  (B : Below A₀ base outer h₀) (F : Fr h₀ L s.heap m) (X : (hd.heap_1 w.params).In h₀) (T : Top p loose mean mg mb h₀) (hdp : d < 980) (hun : u < 9800)
  (hx : x.length ≤ 100000)
  (hR : ∀ h' t t' k, Fr h₀ L h' m → News h₀ L h' (lgG w.params K pb pc x wc cm pu ex b sp sv ln tl tok tt pos t' pcv pcn rest) → Q (.str (Str.ofString "") t) { s with heap := h', toks := k })
  : wpAny (model prog w) (ar hdl d (fenv ns ig ic mo gl cs qn fo cdv bi L :: outer) gs u) (call (.ref 533) [.ref K.io, .int 1 tk1]) Q E s :=
  read_e B F X T hdp hun hA.o hx (i_ng hA) hc (fun p hp => N p (hs p hp)) hR
theorem pun_ng {expr : Bool} (N : News h₀ L s.heap l) (hs : ∀ p ∈ lgG w.params K pb pc x wc cm pu ex b sp sv ln tl tok tt pos tp pcv pcn rest, p ∈ l)
  (B : Below A₀ base outer h₀) (F : Fr h₀ L s.heap m) (X : (hd.heap_1 w.params).In h₀) (T : Top p loose mean mg mb h₀) (hdp : d < 980) (hun : u < 9800)
  (hQ : ∀ h' k, Fr h₀ L h' m → News h₀ L h' l → Q (.str pu K.T.c18) { s with heap := h', toks := k })
  : wpAny (model prog w) (ar hdl d (fenv ns ig ic mo gl cs qn fo cdv bi L :: outer) gs u) (getAttr (.ref K.lx) (Str.ofString "punctuation_chars") expr) Q E s :=
  get_punct N (hs _ (.tail _ (.tail _ (.tail _ (.head _))))) (hs _ (.tail _ (.tail _ (.tail _ (.tail _ (.head _)))))) B F X T hdp hun hQ
end
end Mine

end
section
local macro_rules | `(tactic| walk_at "compareOp NotIn str str") => `(tactic| (k_here; (with_reducible show wpAny _ _ (compareOp CmpOp.NotIn (Value.str (Str.mk #[_]) _) _) _ _ _); (with_reducible refine' Mine.notin_ch ?e ?_); (case e => first | with_reducible assumption | rfl); k_whole))
local macro_rules | `(tactic| walk_at "compareOp Eq str str") => `(tactic| (k_here; (with_reducible show wpAny _ _ (compareOp CmpOp.Eq (Value.str (Str.mk #[_]) _) (Value.str (Str.ofString "\n") _)) _ _ _); (with_reducible refine' Mine.eq_nl ?e ?_); (case e => first | with_reducible assumption | rfl); k_whole))
local macro_rules | `(tactic| walk_at "truthy str") => `(tactic| (k_here; (with_reducible show wpAny _ _ (truthy (Value.str (Str.mk #[_]) _)) _ _ _); (with_reducible refine Mine.truthy_ch ?_); (try dsimp only)))
local macro_rules | `(tactic| walk_at "ng") => `(tactic| first | exact Mine.ng_own | exact Mine.ng_one)
local macro_rules | `(tactic| walk_at "call ref") => `(tactic| (k_here; k_dflt (first | refine' Mine.rdc_ng (by k_asm) (by walk_at "ng") (by assumption) (by assumption) (by k_asm) (by k_asm) (by k_asm) (by k_asm) (by k_room) (by k_units) (by k_asm) ?_ | refine' Mine.rde_ng (by k_asm) (by walk_at "ng") (by assumption) (by assumption) (by k_asm) (by k_asm) (by k_asm) (by k_asm) (by k_room) (by k_units) (by k_asm) ?_); k_whole; intro h' t' t2' k' F' N'; (try dsimp only); (try k_sweep)))
local macro_rules | `(tactic| walk_at "truthy str") => `(tactic| (k_here; (with_reducible show wpAny _ _ (truthy (Value.str (Mine.S _) _)) _ _ _); (with_reducible refine' Mine.truthy_S ?e ?l ?_); (case e => with_reducible assumption); (case l => first | exact Mine.le4 ‹_› | omega); k_whole; (try dsimp only)))
local macro_rules | `(tactic| walk_at "compareOp Eq str str") => `(tactic| (k_here; (with_reducible show wpAny _ _ (compareOp CmpOp.Eq (Value.str (Mine.S _) _) (Value.str (Str.ofString "") _)) _ _ _); (with_reducible refine' Mine.eq_S ?e ?_); (case e => with_reducible assumption); k_whole))
local macro_rules | `(tactic| walk_at "inplaceOp Add str str") => `(tactic| (k_here; (with_reducible show wpAny _ _ (inplaceOp Operator.Add (Value.str (Mine.S _) _) (Value.str (Str.mk #[_]) _)) _ _ _); (with_reducible refine' Mine.add_S ?l ?_); (case l => first | exact Mine.le4 ‹_› | omega); intro t' k'; (try dsimp only)))
local macro_rules | `(tactic| walk_at "getMethod ref") => `(tactic| (k_here; k_dflt (first | ((with_reducible show wpAny _ _ (getMethod _ (Str.ofString "read") _) _ _ _); refine' Mine.meth_ng (by k_asm) (by k_asm) (by k_asm) (by walk_at "ng") ?_) | ((with_reducible show wpAny _ _ (getMethod _ (Str.ofString "append") _) _ _ _); refine' Mine.dqm_ng Mine.dq_slot_append Mine.dq_type_append (by k_asm) (by walk_at "ng") ?_) | ((with_reducible show wpAny _ _ (getMethod _ (Str.ofString "pop") _) _ _ _); refine' Mine.dqm_ng Mine.dq_slot_pop Mine.dq_type_pop (by k_asm) (by walk_at "ng") ?_) | ((with_reducible show wpAny _ _ (getMethod _ (Str.ofString "appendleft") _) _ _ _); refine' Mine.dqm_ng Mine.dq_slot_appendleft Mine.dq_type_appendleft (by k_asm) (by walk_at "ng") ?_)); k_whole))
local macro_rules | `(tactic| walk_at "compareOp In str str") => `(tactic| (k_here; (with_reducible show wpAny _ _ (compareOp CmpOp.In (Value.str (Str.ofString _) _) (Value.str (Str.ofString _) _)) _ _ _); first | ((with_reducible refine' Mine.in_lit_f ?e ?_); (case e => decide +kernel)) | ((with_reducible refine' Mine.in_lit_t ?e ?_); (case e => decide +kernel))))
local macro_rules | `(tactic| walk_at "getAttr ref") => `(tactic| (k_here; k_dflt (first | refine' Mine.get_ng (by k_asm) (by k_asm) (by k_asm) (by walk_at "ng") (by k_is) (by k_is) (by k_is) (by k_is) (by k_get) (by k_handed) ?_ | refine' Mine.get_ng2 (by k_asm) (by k_asm) (by k_asm) (by walk_at "ng") (by k_is) (by k_is) (by k_is) (by k_is) (by k_get) (by k_handed) ?_); k_whole))
local macro_rules | `(tactic| walk_at "setAttr ref") => `(tactic| (k_here; k_dflt (refine' Mine.set_ng (by k_asm) (by k_asm) (by k_asm) (by walk_at "ng") (by assumption) (by assumption) (by k_is) (by k_get) (by first | exact Mine.put_sv | exact Mine.put_tk | exact Mine.put_ln) ?_; k_whole; intro h' k' F' N'; (try dsimp only at N'); (try k_sweep))))
local macro_rules | `(tactic| walk_at "compareOp Eq str str") => `(tactic| (k_here; (with_reducible show wpAny _ _ (compareOp CmpOp.Eq (Value.str (Str.mk #[_]) _) (Value.str (Str.ofString " ") _)) _ _ _); (with_reducible refine' Mine.eq_sp ?e ?_); (case e => first | with_reducible assumption | rfl); k_whole))
local macro_rules | `(tactic| walk_at "compareOp Eq str str") => `(tactic| (k_here; (with_reducible show wpAny _ _ (compareOp CmpOp.Eq (Value.str (Str.mk #[_]) _) (Value.str (Str.mk #[_]) _)) _ _ _); (with_reducible refine' Mine.eq_cc ?e ?_); (case e => first | with_reducible assumption | rfl); k_whole))
local macro_rules | `(tactic| walk_at "leaving ref") => `(tactic| (k_here; (refine' leave_raiseS ?k1 ?k0 ?k2 ?k3 ?_; (case k0 => first | assumption | exact Heap.MadeExc.of (by assumption)); (case k2 => assumption); (case k1 => assumption); (case k3 => k_asm); k_whole; intro h' t' S' R' U'; (try dsimp only at S' R' U' ⊢))))
local macro_rules | `(tactic| walk_at "truthy str") => `(tactic| (k_here; (with_reducible refine' Mine.truthy_ne ?e ?l ?_); (case e => with_reducible assumption); (case l => with_reducible assumption); k_whole; (try dsimp only)))
local macro_rules | `(tactic| walk_at "call builtin:collections.deque.pop") => `(tactic| (k_here; k_dflt (refine' Mine.dqp_ng (by k_asm) (by k_asm) (by walk_at "ng") (by assumption) ?_; k_whole); intro h' F' N'; (try dsimp only); (try k_sweep)))
local macro_rules | `(tactic| walk_at "call builtin:collections.deque.append") => `(tactic| (k_here; k_dflt (refine' Mine.dqa_ng (by k_asm) (by k_asm) (by walk_at "ng") (by assumption) ?_; k_whole); intro h' F' N'; (try dsimp only); (try k_sweep)))
local macro_rules | `(tactic| walk_at "truthy ref") => `(tactic| (k_here; k_dflt (refine' Mine.dqt_ng (by k_asm) (by walk_at "ng") (by exact Nat.le_of_ble_eq_true rfl) ?_; k_whole); (try dsimp only [List.isEmpty_cons, List.isEmpty_nil, Bool.not_true, Bool.not_false])))
local macro_rules | `(tactic| walk_at "call builtin:collections.deque.appendleft") => `(tactic| (k_here; k_dflt (refine' Mine.dql_ng (by k_asm) (by k_asm) (by walk_at "ng") (by assumption) ?_; k_whole); intro h' F' N'; (try dsimp only); (try k_sweep)))
local macro_rules | `(tactic| walk_at "getAttr ref") => `(tactic| (k_here; (with_reducible show wpAny _ _ (getAttr (Value.ref _) (Str.ofString "punctuation_chars") _) _ _ _); k_dflt (refine' Mine.pun_ng (by k_asm) (by walk_at "ng") (by k_asm) (by k_asm) (by k_asm) (by k_asm) (by k_room) (by k_units) ?_; k_whole); intro h' tk' F' N'; (try dsimp only); (try k_sweep)))

namespace Mine
section
variable {w : World} {A₀ : Around} {base h₀ : Heap} {outer : List Env} {L : Addr} {m mg mb : Str → Option Value} {loose : List Str} {mean : ExcName → Option Value} {s : Shared} {Q E : Value → Shared → Prop} {p : Program}
  {hdl : Option Value} {d u : Nat} {gs : Option (List Code)} {rest : List (Addr × Obj)} {ns : List (Str × NameKind)} {ig ic : Bool} {mo : List (Str × Const)} {gl bi : Addr} {cs : List (Str × Addr)} {qn : Str} {fo : Option Addr} {cdv : Value}
def TIG (b : Bool) (st : S5) (l : List Nat) (q : Bool) : Prop := match st with
  | .white => l = [] ∧ (b = true → q = false)
  | .word => l.isEmpty = false ∧ (b = true → q = false)
  | .punct => l.isEmpty = false ∧ (b = true → q = false)
  | _ => True
def InvG (x : Str) (b : Bool) (F : List Nat → S5 → List Nat → Int → Option R5) (R : R5) (pu : Str) (c : LS5) : Prop :=
  ∃ st l pq, (pu.cps.toList.isEmpty = true → pq = [] ∧ st ≠ .punct) ∧ SV5 st c.sv ∧ c.tok = S l ∧ PC c.pcv pq ∧ l.length + (pq ++ x.cps.toList.drop c.pos).length ≤ 100000 ∧ TIG b st l c.q ∧ F (pq ++ x.cps.toList.drop c.pos) st l c.ln = some R
def EndG (x : Str) (b : Bool) (R : R5) (c : LS5) : Prop :=
  ∃ tok st push, R = .ok tok st (x.cps.toList.drop c.pos) c.ln push ∧ c.tok = S tok ∧ tok.length ≤ 100000 ∧ SV5 st c.sv ∧ PC c.pcv push.toList ∧ (b = true → c.q = false ∧ tok.isEmpty = false)
theorem qne_nG : (Str.ofString "quoted" = Str.ofString "nextchar") = False := eq_false (by decide +kernel)
theorem qne_eG : (Str.ofString "quoted" = Str.ofString "escapedstate") = False := eq_false (by decide +kernel)
def msgG : S5 → Str
  | .esc => Str.ofString "No escaped character"
  | _ => Str.ofString "No closing quotation"
theorem rtokG {K : GK} {pb pc : Addr} {x wc cm pu tkx : Str} {pos : Nat} {ex : List DictEntry} {b sp : Bool} {sv : Value} {ln : Int} {t2 tl tt : Tok} {pcv : List Value} {pcn : Int} {st : S5} {pq l0 : List Nat} {R : R5}
  (B : Below A₀ base outer h₀) (F : Fr h₀ L s.heap m) (X : (hd.heap_1 w.params).In h₀) (T : Top p loose mean mg mb h₀) (hdp : d < 900) (hun : u < 9000)
  (hx : x.length ≤ 100000) (hA : ApG K pc rest)
  (hsv : SV5 st sv) (hpc : PC pcv pq) (htk : tkx = S l0) (hti : TIG b st l0 false) (hlen : l0.length + (pq ++ x.cps.toList.drop pos).length ≤ 100000) (hG : GX w.params pu pb pc ex) (hN : pu.cps.toList.isEmpty = true → pq = [] ∧ st ≠ .punct)
  (hrt : rt5 false b sp (fun c => wc.cps.toList.contains c) (fun c => pu.cps.toList.contains c) (fun c => cm.cps.toList.contains c) (pq ++ x.cps.toList.drop pos) st l0 ln = some R)
  (N : News h₀ L s.heap (lgG w.params K pb pc x wc cm pu ex b sp sv ln tl tkx tt pos t2 pcv pcn rest))
  (hQ : ∀ h' v sv' ln' tl' tt' pos' t2' pcv' pcn' k tok st' push t, Fr h₀ L h' m → News h₀ L h' (lgG w.params K pb pc x wc cm pu ex b sp sv' ln' tl' (S []) tt' pos' t2' pcv' pcn' rest) →
    R = .ok tok st' (x.cps.toList.drop pos') ln' push → SV5 st' sv' → PC pcv' push.toList → v = .str (S tok) t → Q v { s with heap := h', toks := k })
  (hE : ∀ h' e t g' sv' ln' tl' tt' pos' t2' pcn' k tok st' tv, RaisedS base g' (fenv ns ig ic mo gl cs qn fo cdv bi L :: outer) e (.type "ValueError") t [.str (msgG st') tv] (lgG w.params K pb pc x wc cm pu ex b sp sv' ln' tl' (S tok) tt' pos' t2' [] pcn' rest) h' → Fr h₀ L g' m → g'.UpToSlots h' →
    R = .fault tok st' ln' → SV5 st' sv' → x.cps.toList.drop pos' = [] → E (.ref e) { s with heap := h', toks := k })
  : wpAny (model prog w) (ar none d (fenv ns ig ic mo gl cs qn fo cdv bi L :: outer) gs u) (call (.ref 690) [.ref K.lx]) Q E s := by
  have hex := hG.len
  refine wpAny_call ?_
  k_enter
  ktr_unf
  rename Fr _ _ _ _ => F1
  rename News _ _ _ _ => N1
  refine wl_whileE (σ := LS5) (fun c => lgG w.params K pb pc x wc cm pu ex b sp c.sv c.ln c.tl c.tok c.tt c.pos c.tp c.pcv c.pcn rest) (fun c => [(Str.ofString "quoted", .bool c.q)]) [Str.ofString "nextchar", Str.ofString "escapedstate"]
    (InvG x b (rt5 false b sp (fun c => wc.cps.toList.contains c) (fun c => pu.cps.toList.contains c) (fun c => cm.cps.toList.contains c)) R pu) (EndG x b R) (fun c => (x.length - c.pos) + c.pcv.length) ⟨sv, ln, tl, tkx, tt, pos, t2, pcv, pcn, false⟩ F1 N1 ?_ ?_ ?_ ?_
  · intro p hp
    rw [List.mem_singleton.mp hp]
    simp only [qne_eG, if_true, if_false]
  · exact ⟨st, l0, pq, hN, hsv, htk, hpc, hlen, hti, hrt⟩
  · clear N1 F1 hrt hti hlen hpc htk hsv N
    clear hN; rintro ⟨sv, ln, tl, tok, tt, pos', tp, pcv', pcn', q⟩ u h tk ⟨st, l, pq, hN, h5, h6, h7, h8, h9, h13⟩ F2 N2
    dsimp only at h5 h6 h7 h8 h9 h13 N2 F2
    subst h6
    (repeat' (first | (k_unfold; (try dsimp only)) | ((fail_if_success (with_reducible show wpAny _ _ (execs (_ :: _) _) _ _ _)); walk1)))
    replace F2 : Fr _ _ _ (FrB u _ q) := F2
    refine post_gen ?_
    intro Qv hQv
    have hI := fun c h m' tk F N ho hp hm => @lf_1 _ h _ _ _ _ _ _ _ _ _ c m' tk hQv F N ho hp hm
    have hB := fun c h m' tk F N ho hp => @lf_2 _ h _ _ _ _ _ _ _ _ _ c m' tk hQv F N ho hp
    clear hQv
    cases hin : (pq ++ x.cps.toList.drop pos') with
    | nil =>
      refine nx5_mid F2 (fun pos tp pcn => lgG w.params K pb pc x wc cm pu ex b sp sv ln tl (S l) tt pos tp [] pcn rest) x (Str.ofString "") [] (x.length - pos' + 1) ?_ ?_
      ·
        rcases h7 with ⟨rfl, rfl⟩ | ⟨c0, t0, rfl, rfl⟩
        ·
          have hin : x.cps.toList.drop pos' = [] := hin
          rcases hG with ⟨rfl, rfl, rfl⟩ | ⟨hpu, hpl, k19, rfl⟩
          ·
            k_steps
            all_goals exact ⟨_, _, _, _, _, _, rfl, by assumption, by assumption, by assumption, by first | exact mu0 | exact mu1 hpl2 | exact mu2 | omega⟩
          ·
            k_steps
            all_goals exact ⟨_, _, _, _, _, _, rfl, by assumption, by assumption, by assumption, by first | exact mu0 | exact mu1 hpl2 | exact mu2 | omega⟩
        ·
          cases hin
      ·
        clear F2 N2
        intro h tk tn pos2 tp2 pcn2 F2 N2 hd hmu
        refine ln5_mid F2 (fun ln tl => lgG w.params K pb pc x wc cm pu ex b sp sv ln tl (S l) tt pos2 tp2 [] pcn2 rest) ln ?_ ?_
        ·
          k_steps
          all_goals exact ⟨_, _, _, rfl, by assumption, by assumption⟩
        ·
          clear F2 N2
          intro h tk tl2 ln2 hln F2 N2
          subst hln
          rw [hin] at h13 h8
          (repeat' (first | (k_unfold; (try dsimp only)) | ((fail_if_success (with_reducible show wpAny _ _ (execs (Stmt.If (Expr.Compare _ [CmpOp.Is] _ _) _ _ _ :: _) _) _ _ _)); walk1)))
          cases st with
          | fin =>
            simp [re_nf, re_nw, re_no, re_nx, re_np, re_cf, re_ce] at h13
          | white =>
            simp [re_nf, re_nw, re_no, re_nx, re_np, re_cf, re_ce] at h13
          | word =>
            simp [re_nf, re_nw, re_no, re_nx, re_np, re_cf, re_ce] at h13
          | wordq =>
            simp [re_nf, re_nw, re_no, re_nx, re_np, re_cf, re_ce] at h13
          | punct =>
            simp [re_nf, re_nw, re_no, re_nx, re_np, re_cf, re_ce] at h13
          | quote q0 =>
            (first | rw [re_nq] at h13 | rw [re_ne] at h13 | rw [re_nf] at h13 | rw [re_nw] at h13 | rw [re_no] at h13 | rw [re_np] at h13); (try simp only [← hln] at h13); (try clear hln)
            obtain rfl := Option.some.inj h13
            obtain ⟨hq0, ts, rfl⟩ := h5
            have hsp32 := (isQ_ne hq0).1
            have hq1 : (Str.ofString "'\"").cps.toList.contains q0 = true := hq0
            (repeat' (first | (k_unfold; (try dsimp only)) | ((fail_if_success (with_reducible show wpAny _ _ (exec (Stmt.Raise _ _ _) _) _ _ _)); walk1)))
            (with_reducible rename Fr _ _ _ _ => kF)
            refine' Raise_madeB PySem.F.excCall_ValueError PySem.F.excRaise_ValueError ?hhquote ?hxquote ?hequote ?hpquote
            case hhquote => rfl
            case hequote => rfl
            case hpquote => rfl
            refine' name_B kF ?k1quote ?k2quote ?k3quote ?k4quote ?k5quote ?_
            case k1quote => k_asm
            case k2quote => k_asm
            case k3quote => k_is
            case k4quote => boot_by_name
            case k5quote => decide
            refine ⟨rfl, ?_⟩
            k_steps
            all_goals (exact hE _ _ _ _ _ _ _ _ _ _ _ _ _ _ _ (by assumption) (by assumption) (by assumption) rfl ⟨hq0, _, rfl⟩ hd)
          | esc =>
            (first | rw [re_nq] at h13 | rw [re_ne] at h13 | rw [re_nf] at h13 | rw [re_nw] at h13 | rw [re_no] at h13 | rw [re_np] at h13); (try simp only [← hln] at h13); (try clear hln)
            obtain rfl := Option.some.inj h13
            obtain ⟨ts, rfl⟩ := h5
            have hsp32 : ((92 : Nat) == 32) = false := rfl
            have hq1 : (Str.ofString "'\"").cps.toList.contains 92 = false := by decide +kernel
            have hes : (Str.ofString "\\").cps.toList.contains 92 = true := by decide +kernel
            (repeat' (first | (k_unfold; (try dsimp only)) | ((fail_if_success (with_reducible show wpAny _ _ (exec (Stmt.Raise _ _ _) _) _ _ _)); walk1)))
            (with_reducible rename Fr _ _ _ _ => kF)
            refine' Raise_madeB PySem.F.excCall_ValueError PySem.F.excRaise_ValueError ?hhesc ?hxesc ?heesc ?hpesc
            case hhesc => rfl
            case heesc => rfl
            case hpesc => rfl
            refine' name_B kF ?k1esc ?k2esc ?k3esc ?k4esc ?k5esc ?_
            case k1esc => k_asm
            case k2esc => k_asm
            case k3esc => k_is
            case k4esc => boot_by_name
            case k5esc => decide
            refine ⟨rfl, ?_⟩
            k_steps
            all_goals (exact hE _ _ _ _ _ _ _ _ _ _ _ _ _ _ _ (by assumption) (by assumption) (by assumption) rfl ⟨_, rfl⟩ hd)
    | cons c r =>
      refine nx5_mid F2 (fun pos tp pcn => lgG w.params K pb pc x wc cm pu ex b sp sv ln tl (S l) tt pos tp [] pcn rest) x ⟨#[c]⟩ r (x.length - pos' + pcv'.length) ?_ ?_
      ·
        rcases h7 with ⟨rfl, rfl⟩ | ⟨c0, t0, rfl, rfl⟩
        ·
          have hin : x.cps.toList.drop pos' = c :: r := hin
          obtain ⟨hd, hpl2⟩ := drop_next hin
          have hpl2 : pos' + 1 ≤ x.length := by simpa [Str.length] using hpl2
          rcases hG with ⟨rfl, rfl, rfl⟩ | ⟨hpu, hpl, k19, rfl⟩
          ·
            k_steps
            all_goals exact ⟨_, _, _, _, _, _, rfl, by assumption, by assumption, by assumption, by first | exact mu0 | exact mu1 hpl2 | exact mu2 | omega⟩
          ·
            k_steps
            all_goals exact ⟨_, _, _, _, _, _, rfl, by assumption, by assumption, by assumption, by first | exact mu0 | exact mu1 hpl2 | exact mu2 | omega⟩
        ·
          have hin : c0 :: x.cps.toList.drop pos' = c :: r := hin
          obtain ⟨rfl, hd⟩ := List.cons.inj hin
          rcases hG with ⟨rfl, rfl, rfl⟩ | ⟨hpu, hpl, k19, rfl⟩
          · exact absurd (hN emp_S).1 (by simp)
          ·
            k_steps
            all_goals exact ⟨_, _, _, _, _, _, rfl, by assumption, by assumption, by assumption, by first | exact mu0 | exact mu1 hpl2 | exact mu2 | omega⟩
      ·
        clear F2 N2
        intro h tk tn pos2 tp2 pcn2 F2 N2 hd hmu
        refine ln5_mid F2 (fun ln tl => lgG w.params K pb pc x wc cm pu ex b sp sv ln tl (S l) tt pos2 tp2 [] pcn2 rest) (lnp c ln) ?_ ?_
        ·
          cases hc10 : (c == 10) with
          | true =>
            have e : lnp c ln = ln + 1 := by simp only [lnp, hc10, if_true]
            rw [e]
            k_steps
            all_goals exact ⟨_, _, _, rfl, by assumption, by assumption⟩
          | false =>
            have e : lnp c ln = ln := by simp only [lnp, hc10, if_false, Bool.false_eq_true]
            rw [e]
            k_steps
            all_goals exact ⟨_, _, _, rfl, by assumption, by assumption⟩
        ·
          clear F2 N2
          intro h tk tl2 ln2 hln F2 N2
          rw [hin] at h13 h8
          (repeat' (first | (k_unfold; (try dsimp only)) | ((fail_if_success (with_reducible show wpAny _ _ (execs (Stmt.If (Expr.Compare _ [CmpOp.Is] _ _) _ _ _ :: _) _) _ _ _)); walk1)))
          cases st with
          | fin =>
            simp [re_nf, re_nw, re_no, re_nx, re_np, re_cf, re_ce] at h13
          | white =>
            obtain ⟨rfl, hq⟩ := h9
            obtain ⟨ts, rfl⟩ := h5
            have hle : ([] : List Nat).isEmpty = true := rfl
            (repeat' (first | (k_unfold; (try dsimp only)) | ((fail_if_success (with_reducible show wpAny _ _ (compareOp CmpOp.In (Value.str (Str.mk #[_]) _) _) _ _ _)); (fail_if_success (with_reducible show wpAny _ _ (isTrue (Expr.BoolOp _ _ _) _ _) _ _ _)); walk1)))
            cases hws : (Str.ofString " \t\x0d\n").cps.toList.contains c with
            | true =>
              replace h13 := w_ws h13 hln hws
              walk1
              (repeat' (first | (k_unfold; (try dsimp only)) | ((fail_if_success (with_reducible show wpAny _ _ (compareOp CmpOp.In (Value.str (Str.mk #[_]) _) _) _ _ _)); (fail_if_success (with_reducible show wpAny _ _ (isTrue (Expr.BoolOp _ _ _) _ _) _ _ _)); walk1)))
              refine test_f ?_ (fun tk => ?_)
              ·
                cases b with
                | true =>
                  obtain rfl := hq rfl
                  k_steps
                  all_goals exact ⟨rfl, _, rfl⟩
                | false =>
                  k_steps
                  all_goals exact ⟨rfl, _, rfl⟩
              ·
                k_steps
                all_goals (first | exact (hI ⟨_, _, _, _, _, _, _, _, _, q⟩ _ _ _ (by assumption) (by first | assumption | exact news_tl (by assumption)) (by repeat' (first | exact fo_0 | apply fo_n | apply fo_e | apply fo_q)) ⟨.white, [], [], fun _ => ⟨rfl, fun e => nomatch e⟩, ⟨_, rfl⟩, rfl, .inl ⟨rfl, rfl⟩, by first | exact le1 hd h8 | exact le2 hd h8 | exact le3 hd h8 | (rw [List.nil_append, hd]; simp only [List.length_append, List.length_cons, List.length_nil] at h8 ⊢; omega), ⟨rfl, hq⟩, by rw [List.nil_append, hd]; exact h13⟩ hmu).1 | exact (hI ⟨_, _, _, _, _, _, _, _, _, q⟩ _ _ _ (by assumption) (by first | assumption | exact news_tl (by assumption)) (by repeat' (first | exact fo_0 | apply fo_n | apply fo_e | apply fo_q)) ⟨.white, [], [], fun _ => ⟨rfl, fun e => nomatch e⟩, ⟨_, rfl⟩, rfl, .inl ⟨rfl, rfl⟩, by first | exact le1 hd h8 | exact le2 hd h8 | exact le3 hd h8 | (rw [List.nil_append, hd]; simp only [List.length_append, List.length_cons, List.length_nil] at h8 ⊢; omega), ⟨rfl, hq⟩, by rw [List.nil_append, hd]; exact h13⟩ hmu).2)
            | false =>
              have hcm : cm.cps.toList.contains c = false := w_cm h13 hws
              walk1
              (repeat' (first | (k_unfold; (try dsimp only)) | ((fail_if_success (with_reducible show wpAny _ _ (compareOp CmpOp.In (Value.str (Str.mk #[_]) _) _) _ _ _)); (fail_if_success (with_reducible show wpAny _ _ (isTrue (Expr.BoolOp _ _ _) _ _) _ _ _)); walk1)))
              walk1
              (repeat' (first | (k_unfold; (try dsimp only)) | ((fail_if_success (with_reducible show wpAny _ _ (compareOp CmpOp.In (Value.str (Str.mk #[_]) _) _) _ _ _)); (fail_if_success (with_reducible show wpAny _ _ (isTrue (Expr.BoolOp _ _ _) _ _) _ _ _)); walk1)))
              have hbe : (b && isE c) = false := w_be h13 hws
              refine test_f ?_ (fun tk => ?_)
              ·
                cases b with
                | true =>
                  have hes : (Str.ofString "\\").cps.toList.contains c = false := hbe
                  k_steps
                  all_goals exact ⟨rfl, _, rfl⟩
                | false =>
                  k_steps
                  all_goals exact ⟨rfl, _, rfl⟩
              (repeat' (first | (k_unfold; (try dsimp only)) | ((fail_if_success (with_reducible show wpAny _ _ (compareOp CmpOp.In (Value.str (Str.mk #[_]) _) _) _ _ _)); (fail_if_success (with_reducible show wpAny _ _ (isTrue (Expr.BoolOp _ _ _) _ _) _ _ _)); walk1)))
              cases hwc : wc.cps.toList.contains c with
              | true =>
                replace h13 := w_W h13 hln hws hwc
                k_steps
                all_goals (first | exact (hI ⟨_, _, _, _, _, _, _, _, _, q⟩ _ _ _ (by assumption) (by first | assumption | exact news_tl (by assumption)) (by repeat' (first | exact fo_0 | apply fo_n | apply fo_e | apply fo_q)) ⟨.word, [c], [], fun _ => ⟨rfl, fun e => nomatch e⟩, ⟨_, rfl⟩, rfl, .inl ⟨rfl, rfl⟩, by first | exact le1 hd h8 | exact le2 hd h8 | exact le3 hd h8 | (rw [List.nil_append, hd]; simp only [List.length_append, List.length_cons, List.length_nil] at h8 ⊢; omega), ⟨rfl, hq⟩, by rw [List.nil_append, hd]; exact h13⟩ hmu).1 | exact (hI ⟨_, _, _, _, _, _, _, _, _, q⟩ _ _ _ (by assumption) (by first | assumption | exact news_tl (by assumption)) (by repeat' (first | exact fo_0 | apply fo_n | apply fo_e | apply fo_q)) ⟨.word, [c], [], fun _ => ⟨rfl, fun e => nomatch e⟩, ⟨_, rfl⟩, rfl, .inl ⟨rfl, rfl⟩, by first | exact le1 hd h8 | exact le2 hd h8 | exact le3 hd h8 | (rw [List.nil_append, hd]; simp only [List.length_append, List.length_cons, List.length_nil] at h8 ⊢; omega), ⟨rfl, hq⟩, by rw [List.nil_append, hd]; exact h13⟩ hmu).2)
              | false =>
                walk1
                (repeat' (first | (k_unfold; (try dsimp only)) | ((fail_if_success (with_reducible show wpAny _ _ (compareOp CmpOp.In (Value.str (Str.mk #[_]) _) _) _ _ _)); (fail_if_success (with_reducible show wpAny _ _ (isTrue (Expr.BoolOp _ _ _) _ _) _ _ _)); walk1)))
                cases hpn : pu.cps.toList.contains c with
                | true =>
                  replace h13 := w_U h13 hln hws hwc hpn
                  k_steps
                  all_goals (first | exact (hI ⟨_, _, _, _, _, _, _, _, _, q⟩ _ _ _ (by assumption) (by first | assumption | exact news_tl (by assumption)) (by repeat' (first | exact fo_0 | apply fo_n | apply fo_e | apply fo_q)) ⟨.punct, [c], [], (fun e => nomatch (e.symm.trans (contains_ne hpn))), ⟨_, rfl⟩, rfl, .inl ⟨rfl, rfl⟩, by first | exact le1 hd h8 | exact le2 hd h8 | exact le3 hd h8 | (rw [List.nil_append, hd]; simp only [List.length_append, List.length_cons, List.length_nil] at h8 ⊢; omega), ⟨rfl, hq⟩, by rw [List.nil_append, hd]; exact h13⟩ hmu).1 | exact (hI ⟨_, _, _, _, _, _, _, _, _, q⟩ _ _ _ (by assumption) (by first | assumption | exact news_tl (by assumption)) (by repeat' (first | exact fo_0 | apply fo_n | apply fo_e | apply fo_q)) ⟨.punct, [c], [], (fun e => nomatch (e.symm.trans (contains_ne hpn))), ⟨_, rfl⟩, rfl, .inl ⟨rfl, rfl⟩, by first | exact le1 hd h8 | exact le2 hd h8 | exact le3 hd h8 | (rw [List.nil_append, hd]; simp only [List.length_append, List.length_cons, List.length_nil] at h8 ⊢; omega), ⟨rfl, hq⟩, by rw [List.nil_append, hd]; exact h13⟩ hmu).2)
                | false =>
                  walk1
                  (repeat' (first | (k_unfold; (try dsimp only)) | ((fail_if_success (with_reducible show wpAny _ _ (compareOp CmpOp.In (Value.str (Str.mk #[_]) _) _) _ _ _)); (fail_if_success (with_reducible show wpAny _ _ (isTrue (Expr.BoolOp _ _ _) _ _) _ _ _)); walk1)))
                  cases hqs : (Str.ofString "'\"").cps.toList.contains c with
                  | true =>
                    replace h13 := w_Q h13 hln hws hwc hpn hqs
                    cases b with
                    | true =>
                      simp only [if_true] at h13
                      k_steps
                      all_goals (first | exact (hI ⟨_, _, _, _, _, _, _, _, _, q⟩ _ _ _ (by assumption) (by first | assumption | exact news_tl (by assumption)) (by repeat' (first | exact fo_0 | apply fo_n | apply fo_e | apply fo_q)) ⟨.quote c, _, [], fun _ => ⟨rfl, fun e => nomatch e⟩, ⟨hqs, _, rfl⟩, rfl, .inl ⟨rfl, rfl⟩, by first | exact le1 hd h8 | exact le2 hd h8 | exact le3 hd h8 | (rw [List.nil_append, hd]; simp only [List.length_append, List.length_cons, List.length_nil] at h8 ⊢; omega), trivial, by rw [List.nil_append, hd]; exact h13⟩ hmu).1 | exact (hI ⟨_, _, _, _, _, _, _, _, _, q⟩ _ _ _ (by assumption) (by first | assumption | exact news_tl (by assumption)) (by repeat' (first | exact fo_0 | apply fo_n | apply fo_e | apply fo_q)) ⟨.quote c, _, [], fun _ => ⟨rfl, fun e => nomatch e⟩, ⟨hqs, _, rfl⟩, rfl, .inl ⟨rfl, rfl⟩, by first | exact le1 hd h8 | exact le2 hd h8 | exact le3 hd h8 | (rw [List.nil_append, hd]; simp only [List.length_append, List.length_cons, List.length_nil] at h8 ⊢; omega), trivial, by rw [List.nil_append, hd]; exact h13⟩ hmu).2)
                    | false =>
                      simp only [if_false, Bool.false_eq_true] at h13
                      k_steps
                      all_goals (first | exact (hI ⟨_, _, _, _, _, _, _, _, _, q⟩ _ _ _ (by assumption) (by first | assumption | exact news_tl (by assumption)) (by repeat' (first | exact fo_0 | apply fo_n | apply fo_e | apply fo_q)) ⟨.quote c, _, [], fun _ => ⟨rfl, fun e => nomatch e⟩, ⟨hqs, _, rfl⟩, rfl, .inl ⟨rfl, rfl⟩, by first | exact le1 hd h8 | exact le2 hd h8 | exact le3 hd h8 | (rw [List.nil_append, hd]; simp only [List.length_append, List.length_cons, List.length_nil] at h8 ⊢; omega), trivial, by rw [List.nil_append, hd]; exact h13⟩ hmu).1 | exact (hI ⟨_, _, _, _, _, _, _, _, _, q⟩ _ _ _ (by assumption) (by first | assumption | exact news_tl (by assumption)) (by repeat' (first | exact fo_0 | apply fo_n | apply fo_e | apply fo_q)) ⟨.quote c, _, [], fun _ => ⟨rfl, fun e => nomatch e⟩, ⟨hqs, _, rfl⟩, rfl, .inl ⟨rfl, rfl⟩, by first | exact le1 hd h8 | exact le2 hd h8 | exact le3 hd h8 | (rw [List.nil_append, hd]; simp only [List.length_append, List.length_cons, List.length_nil] at h8 ⊢; omega), trivial, by rw [List.nil_append, hd]; exact h13⟩ hmu).2)
                  | false =>
                    cases sp with
                    | true =>
                      replace h13 := w_S h13 hln hws hwc hpn hqs
                      k_steps
                      all_goals (first | exact (hI ⟨_, _, _, _, _, _, _, _, _, q⟩ _ _ _ (by assumption) (by first | assumption | exact news_tl (by assumption)) (by repeat' (first | exact fo_0 | apply fo_n | apply fo_e | apply fo_q)) ⟨.word, [c], [], fun _ => ⟨rfl, fun e => nomatch e⟩, ⟨_, rfl⟩, rfl, .inl ⟨rfl, rfl⟩, by first | exact le1 hd h8 | exact le2 hd h8 | exact le3 hd h8 | (rw [List.nil_append, hd]; simp only [List.length_append, List.length_cons, List.length_nil] at h8 ⊢; omega), ⟨rfl, hq⟩, by rw [List.nil_append, hd]; exact h13⟩ hmu).1 | exact (hI ⟨_, _, _, _, _, _, _, _, _, q⟩ _ _ _ (by assumption) (by first | assumption | exact news_tl (by assumption)) (by repeat' (first | exact fo_0 | apply fo_n | apply fo_e | apply fo_q)) ⟨.word, [c], [], fun _ => ⟨rfl, fun e => nomatch e⟩, ⟨_, rfl⟩, rfl, .inl ⟨rfl, rfl⟩, by first | exact le1 hd h8 | exact le2 hd h8 | exact le3 hd h8 | (rw [List.nil_append, hd]; simp only [List.length_append, List.length_cons, List.length_nil] at h8 ⊢; omega), ⟨rfl, hq⟩, by rw [List.nil_append, hd]; exact h13⟩ hmu).2)
                    | false =>
                      replace h13 := w_O h13 hln hws hwc hpn hqs
                      obtain rfl := Option.some.inj h13
                      k_steps
                      all_goals (exact hB ⟨_, _, _, _, _, _, _, _, _, q⟩ _ _ _ (by assumption) (by first | assumption | exact news_tl (by assumption)) (by repeat' (first | exact fo_0 | apply fo_n | apply fo_e | apply fo_q)) ⟨[c], .white, none, by rw [hd], rfl, by first | exact le4 h8 | exact le5 h8 | exact le6 | (simp only [List.length_append, List.length_cons, List.length_nil] at h8 ⊢; omega), ⟨_, rfl⟩, .inl ⟨rfl, rfl⟩, fun e => ⟨hq e, rfl⟩⟩)
          | word =>
            obtain ⟨hle, hq⟩ := h9
            obtain ⟨ts, rfl⟩ := h5
            (repeat' (first | (k_unfold; (try dsimp only)) | ((fail_if_success (with_reducible show wpAny _ _ (compareOp CmpOp.In (Value.str (Str.mk #[_]) _) _) _ _ _)); (fail_if_success (with_reducible show wpAny _ _ (isTrue (Expr.BoolOp _ _ _) _ _) _ _ _)); walk1)))
            cases hws : (Str.ofString " \t\x0d\n").cps.toList.contains c with
            | true =>
              replace h13 := o_ws h13 hln hws
              obtain rfl := Option.some.inj h13
              k_steps
              all_goals (exact hB ⟨_, _, _, _, _, _, _, _, _, q⟩ _ _ _ (by assumption) (by first | assumption | exact news_tl (by assumption)) (by repeat' (first | exact fo_0 | apply fo_n | apply fo_e | apply fo_q)) ⟨l, .white, none, by rw [hd], rfl, by first | exact le4 h8 | exact le5 h8 | exact le6 | (simp only [List.length_append, List.length_cons, List.length_nil] at h8 ⊢; omega), ⟨_, rfl⟩, .inl ⟨rfl, rfl⟩, fun e => ⟨hq e, hle⟩⟩)
            | false =>
              have hcm : cm.cps.toList.contains c = false := o_cm h13 hws
              walk1
              (repeat' (first | (k_unfold; (try dsimp only)) | ((fail_if_success (with_reducible show wpAny _ _ (compareOp CmpOp.In (Value.str (Str.mk #[_]) _) _) _ _ _)); (fail_if_success (with_reducible show wpAny _ _ (isTrue (Expr.BoolOp _ _ _) _ _) _ _ _)); walk1)))
              walk1
              (repeat' (first | (k_unfold; (try dsimp only)) | ((fail_if_success (with_reducible show wpAny _ _ (compareOp CmpOp.In (Value.str (Str.mk #[_]) _) _) _ _ _)); (fail_if_success (with_reducible show wpAny _ _ (isTrue (Expr.BoolOp _ _ _) _ _) _ _ _)); walk1)))
              cases hbq : (b && isQ c) with
              | true =>
                replace h13 := o_Q h13 hln hws hbq
                obtain ⟨rfl, hqs⟩ : b = true ∧ isQ c = true := by simpa using hbq
                have hqs : (Str.ofString "'\"").cps.toList.contains c = true := hqs
                k_steps
                all_goals (first | exact (hI ⟨_, _, _, _, _, _, _, _, _, q⟩ _ _ _ (by assumption) (by first | assumption | exact news_tl (by assumption)) (by repeat' (first | exact fo_0 | apply fo_n | apply fo_e | apply fo_q)) ⟨.quote c, l, [], fun _ => ⟨rfl, fun e => nomatch e⟩, ⟨hqs, _, rfl⟩, rfl, .inl ⟨rfl, rfl⟩, by first | exact le1 hd h8 | exact le2 hd h8 | exact le3 hd h8 | (rw [List.nil_append, hd]; simp only [List.length_append, List.length_cons, List.length_nil] at h8 ⊢; omega), trivial, by rw [List.nil_append, hd]; exact h13⟩ hmu).1 | exact (hI ⟨_, _, _, _, _, _, _, _, _, q⟩ _ _ _ (by assumption) (by first | assumption | exact news_tl (by assumption)) (by repeat' (first | exact fo_0 | apply fo_n | apply fo_e | apply fo_q)) ⟨.quote c, l, [], fun _ => ⟨rfl, fun e => nomatch e⟩, ⟨hqs, _, rfl⟩, rfl, .inl ⟨rfl, rfl⟩, by first | exact le1 hd h8 | exact le2 hd h8 | exact le3 hd h8 | (rw [List.nil_append, hd]; simp only [List.length_append, List.length_cons, List.length_nil] at h8 ⊢; omega), trivial, by rw [List.nil_append, hd]; exact h13⟩ hmu).2)
              | false =>
                refine test_f ?_ (fun tk => ?_)
                ·
                  cases b with
                  | true =>
                    have hqs : (Str.ofString "'\"").cps.toList.contains c = false := hbq
                    k_steps
                    all_goals exact ⟨rfl, _, rfl⟩
                  | false =>
                    k_steps
                    all_goals exact ⟨rfl, _, rfl⟩
                (repeat' (first | (k_unfold; (try dsimp only)) | ((fail_if_success (with_reducible show wpAny _ _ (compareOp CmpOp.In (Value.str (Str.mk #[_]) _) _) _ _ _)); (fail_if_success (with_reducible show wpAny _ _ (isTrue (Expr.BoolOp _ _ _) _ _) _ _ _)); walk1)))
                have hbe : (b && isE c) = false := o_be h13 hws hbq
                refine test_f ?_ (fun tk => ?_)
                ·
                  cases b with
                  | true =>
                    have hes : (Str.ofString "\\").cps.toList.contains c = false := hbe
                    k_steps
                    all_goals exact ⟨rfl, _, rfl⟩
                  | false =>
                    k_steps
                    all_goals exact ⟨rfl, _, rfl⟩
                (repeat' (first | (k_unfold; (try dsimp only)) | ((fail_if_success (with_reducible show wpAny _ _ (compareOp CmpOp.In (Value.str (Str.mk #[_]) _) _) _ _ _)); (fail_if_success (with_reducible show wpAny _ _ (isTrue (Expr.BoolOp _ _ _) _ _) _ _ _)); walk1)))
                cases he : (wc.cps.toList.contains c || isQ c || (sp && !pu.cps.toList.contains c)) with
                | true =>
                  replace h13 := o_W h13 hln hws hbq he
                  refine testN (r0 := true) (by assumption) (by assumption) ?_ ?_
                  ·
                    cases hwc : wc.cps.toList.contains c with
                    | true =>
                      k_steps
                      all_goals exact ⟨rfl, _, _, rfl, by assumption, by assumption⟩
                    | false =>
                      cases hqs : (Str.ofString "'\"").cps.toList.contains c with
                      | true =>
                        k_steps
                        all_goals exact ⟨rfl, _, _, rfl, by assumption, by assumption⟩
                      | false =>
                        rw [hwc, (show isQ c = false from hqs)] at he
                        have he2 : (sp && !pu.cps.toList.contains c) = true := he
                        rw [Bool.and_eq_true, Bool.not_eq_true'] at he2
                        obtain ⟨rfl, hpn⟩ := he2
                        k_steps
                        all_goals exact ⟨rfl, _, _, rfl, by assumption, by assumption⟩
                  ·
                    intro h tk F2 N2
                    k_steps
                    all_goals (first | exact (hI ⟨_, _, _, _, _, _, _, _, _, q⟩ _ _ _ (by assumption) (by first | assumption | exact news_tl (by assumption)) (by repeat' (first | exact fo_0 | apply fo_n | apply fo_e | apply fo_q)) ⟨.word, (l ++ [c]), [], fun _ => ⟨rfl, fun e => nomatch e⟩, ⟨_, rfl⟩, rfl, .inl ⟨rfl, rfl⟩, by first | exact le1 hd h8 | exact le2 hd h8 | exact le3 hd h8 | (rw [List.nil_append, hd]; simp only [List.length_append, List.length_cons, List.length_nil] at h8 ⊢; omega), ⟨by simp, hq⟩, by rw [List.nil_append, hd]; exact h13⟩ hmu).1 | exact (hI ⟨_, _, _, _, _, _, _, _, _, q⟩ _ _ _ (by assumption) (by first | assumption | exact news_tl (by assumption)) (by repeat' (first | exact fo_0 | apply fo_n | apply fo_e | apply fo_q)) ⟨.word, (l ++ [c]), [], fun _ => ⟨rfl, fun e => nomatch e⟩, ⟨_, rfl⟩, rfl, .inl ⟨rfl, rfl⟩, by first | exact le1 hd h8 | exact le2 hd h8 | exact le3 hd h8 | (rw [List.nil_append, hd]; simp only [List.length_append, List.length_cons, List.length_nil] at h8 ⊢; omega), ⟨by simp, hq⟩, by rw [List.nil_append, hd]; exact h13⟩ hmu).2)
                | false =>
                  replace h13 := o_O h13 hln hws hbq he
                  obtain rfl := Option.some.inj h13
                  obtain ⟨⟨hwc, hqs⟩, hsp⟩ : (wc.cps.toList.contains c = false ∧ isQ c = false) ∧ (sp && !pu.cps.toList.contains c) = false := by simpa only [Bool.or_eq_false_iff] using he
                  have hqs : (Str.ofString "'\"").cps.toList.contains c = false := hqs
                  refine testN (r0 := false) (by assumption) (by assumption) ?_ ?_
                  ·
                    cases sp with
                    | true =>
                      have hpn : pu.cps.toList.contains c = true := by simpa only [Bool.true_and, Bool.not_eq_false'] using hsp
                      k_steps
                      all_goals exact ⟨rfl, _, _, rfl, by assumption, by assumption⟩
                    | false =>
                      k_steps
                      all_goals exact ⟨rfl, _, _, rfl, by assumption, by assumption⟩
                  ·
                    intro h tk F2 N2
                    rcases hG with ⟨rfl, rfl, rfl⟩ | ⟨hpu, hpl, k19, rfl⟩
                    ·
                      k_steps
                      all_goals (exact hB ⟨_, _, _, _, _, _, _, _, _, q⟩ _ _ _ (by assumption) (by first | assumption | exact news_tl (by assumption)) (by repeat' (first | exact fo_0 | apply fo_n | apply fo_e | apply fo_q)) ⟨l, .white, (some c), by rw [hd], rfl, by first | exact le4 h8 | exact le5 h8 | exact le6 | (simp only [List.length_append, List.length_cons, List.length_nil] at h8 ⊢; omega), ⟨_, rfl⟩, .inr ⟨c, _, rfl, rfl⟩, fun e => ⟨hq e, hle⟩⟩)
                    ·
                      k_steps
                      all_goals (exact hB ⟨_, _, _, _, _, _, _, _, _, q⟩ _ _ _ (by assumption) (by first | assumption | exact news_tl (by assumption)) (by repeat' (first | exact fo_0 | apply fo_n | apply fo_e | apply fo_q)) ⟨l, .white, (some c), by rw [hd], rfl, by first | exact le4 h8 | exact le5 h8 | exact le6 | (simp only [List.length_append, List.length_cons, List.length_nil] at h8 ⊢; omega), ⟨_, rfl⟩, .inr ⟨c, _, rfl, rfl⟩, fun e => ⟨hq e, hle⟩⟩)
          | wordq =>
            obtain ⟨ts, rfl⟩ := h5
            obtain ⟨hws, hcm, hqs, rfl, hes, h14⟩ := x_all h13 hln
            clear h13; have h13 := h14; clear h14
            obtain rfl := isE_is hes
            have hws : (Str.ofString " \t\x0d\n").cps.toList.contains 92 = false := hws
            have hes : (Str.ofString "\\").cps.toList.contains 92 = true := hes
            have hqs : (Str.ofString "'\"").cps.toList.contains 92 = false := hqs
            have hcm : cm.cps.toList.contains 92 = false := hcm
            k_steps
            all_goals (first | exact (hI ⟨_, _, _, _, _, _, _, _, _, q⟩ _ _ _ (by assumption) (by first | assumption | exact news_tl (by assumption)) (by repeat' (first | exact fo_0 | apply fo_n | apply fo_e | apply fo_q)) ⟨.esc, l, [], fun _ => ⟨rfl, fun e => nomatch e⟩, ⟨_, rfl⟩, rfl, .inl ⟨rfl, rfl⟩, by first | exact le1 hd h8 | exact le2 hd h8 | exact le3 hd h8 | (rw [List.nil_append, hd]; simp only [List.length_append, List.length_cons, List.length_nil] at h8 ⊢; omega), trivial, by rw [List.nil_append, hd]; exact h13⟩ hmu).1 | exact (hI ⟨_, _, _, _, _, _, _, _, _, q⟩ _ _ _ (by assumption) (by first | assumption | exact news_tl (by assumption)) (by repeat' (first | exact fo_0 | apply fo_n | apply fo_e | apply fo_q)) ⟨.esc, l, [], fun _ => ⟨rfl, fun e => nomatch e⟩, ⟨_, rfl⟩, rfl, .inl ⟨rfl, rfl⟩, by first | exact le1 hd h8 | exact le2 hd h8 | exact le3 hd h8 | (rw [List.nil_append, hd]; simp only [List.length_append, List.length_cons, List.length_nil] at h8 ⊢; omega), trivial, by rw [List.nil_append, hd]; exact h13⟩ hmu).2)
          | punct =>
            obtain ⟨hle, hq⟩ := h9
            obtain ⟨ts, rfl⟩ := h5
            (repeat' (first | (k_unfold; (try dsimp only)) | ((fail_if_success (with_reducible show wpAny _ _ (compareOp CmpOp.In (Value.str (Str.mk #[_]) _) _) _ _ _)); (fail_if_success (with_reducible show wpAny _ _ (isTrue (Expr.BoolOp _ _ _) _ _) _ _ _)); walk1)))
            cases hws : (Str.ofString " \t\x0d\n").cps.toList.contains c with
            | true =>
              replace h13 := p_ws h13 hln hws
              obtain rfl := Option.some.inj h13
              k_steps
              all_goals (exact hB ⟨_, _, _, _, _, _, _, _, _, q⟩ _ _ _ (by assumption) (by first | assumption | exact news_tl (by assumption)) (by repeat' (first | exact fo_0 | apply fo_n | apply fo_e | apply fo_q)) ⟨l, .white, none, by rw [hd], rfl, by first | exact le4 h8 | exact le5 h8 | exact le6 | (simp only [List.length_append, List.length_cons, List.length_nil] at h8 ⊢; omega), ⟨_, rfl⟩, .inl ⟨rfl, rfl⟩, fun e => ⟨hq e, hle⟩⟩)
            | false =>
              have hcm : cm.cps.toList.contains c = false := p_cm h13 hws
              walk1
              (repeat' (first | (k_unfold; (try dsimp only)) | ((fail_if_success (with_reducible show wpAny _ _ (compareOp CmpOp.In (Value.str (Str.mk #[_]) _) _) _ _ _)); (fail_if_success (with_reducible show wpAny _ _ (isTrue (Expr.BoolOp _ _ _) _ _) _ _ _)); walk1)))
              walk1
              (repeat' (first | (k_unfold; (try dsimp only)) | ((fail_if_success (with_reducible show wpAny _ _ (compareOp CmpOp.In (Value.str (Str.mk #[_]) _) _) _ _ _)); (fail_if_success (with_reducible show wpAny _ _ (isTrue (Expr.BoolOp _ _ _) _ _) _ _ _)); walk1)))
              cases hpn : pu.cps.toList.contains c with
              | true =>
                replace h13 := p_U h13 hln hws hpn
                k_steps
                all_goals (first | exact (hI ⟨_, _, _, _, _, _, _, _, _, q⟩ _ _ _ (by assumption) (by first | assumption | exact news_tl (by assumption)) (by repeat' (first | exact fo_0 | apply fo_n | apply fo_e | apply fo_q)) ⟨.punct, (l ++ [c]), [], (fun e => nomatch (e.symm.trans (contains_ne hpn))), ⟨_, rfl⟩, rfl, .inl ⟨rfl, rfl⟩, by first | exact le1 hd h8 | exact le2 hd h8 | exact le3 hd h8 | (rw [List.nil_append, hd]; simp only [List.length_append, List.length_cons, List.length_nil] at h8 ⊢; omega), ⟨by simp, hq⟩, by rw [List.nil_append, hd]; exact h13⟩ hmu).1 | exact (hI ⟨_, _, _, _, _, _, _, _, _, q⟩ _ _ _ (by assumption) (by first | assumption | exact news_tl (by assumption)) (by repeat' (first | exact fo_0 | apply fo_n | apply fo_e | apply fo_q)) ⟨.punct, (l ++ [c]), [], (fun e => nomatch (e.symm.trans (contains_ne hpn))), ⟨_, rfl⟩, rfl, .inl ⟨rfl, rfl⟩, by first | exact le1 hd h8 | exact le2 hd h8 | exact le3 hd h8 | (rw [List.nil_append, hd]; simp only [List.length_append, List.length_cons, List.length_nil] at h8 ⊢; omega), ⟨by simp, hq⟩, by rw [List.nil_append, hd]; exact h13⟩ hmu).2)
              | false =>
                replace h13 := p_O h13 hln hws hpn
                obtain rfl := Option.some.inj h13
                rcases hG with ⟨rfl, rfl, rfl⟩ | ⟨hpu, hpl, k19, rfl⟩
                · exact absurd rfl (hN emp_S).2
                ·
                  k_steps
                  all_goals (exact hB ⟨_, _, _, _, _, _, _, _, _, q⟩ _ _ _ (by assumption) (by first | assumption | exact news_tl (by assumption)) (by repeat' (first | exact fo_0 | apply fo_n | apply fo_e | apply fo_q)) ⟨l, .white, (some c), by rw [hd], rfl, by first | exact le4 h8 | exact le5 h8 | exact le6 | (simp only [List.length_append, List.length_cons, List.length_nil] at h8 ⊢; omega), ⟨_, rfl⟩, .inr ⟨c, _, rfl, rfl⟩, fun e => ⟨hq e, hle⟩⟩)
          | quote q0 =>
            obtain ⟨hq0, ts, rfl⟩ := h5
            have hsp32 := (isQ_ne hq0).1
            have hq1 : (Str.ofString "'\"").cps.toList.contains q0 = true := hq0
            cases hcq : (c == q0) with
            | true =>
              cases b with
              | true =>
                replace h13 := q_t h13 hln hcq
                k_steps
                all_goals (first | exact (hI ⟨_, _, _, _, _, _, _, _, _, true⟩ _ _ _ (by assumption) (by first | assumption | exact news_tl (by assumption)) (by repeat' (first | exact fo_0 | apply fo_n | apply fo_e | apply fo_q)) ⟨.wordq, l, [], fun _ => ⟨rfl, fun e => nomatch e⟩, ⟨_, rfl⟩, rfl, .inl ⟨rfl, rfl⟩, by first | exact le1 hd h8 | exact le2 hd h8 | exact le3 hd h8 | (rw [List.nil_append, hd]; simp only [List.length_append, List.length_cons, List.length_nil] at h8 ⊢; omega), trivial, by rw [List.nil_append, hd]; exact h13⟩ hmu).1 | exact (hI ⟨_, _, _, _, _, _, _, _, _, true⟩ _ _ _ (by assumption) (by first | assumption | exact news_tl (by assumption)) (by repeat' (first | exact fo_0 | apply fo_n | apply fo_e | apply fo_q)) ⟨.wordq, l, [], fun _ => ⟨rfl, fun e => nomatch e⟩, ⟨_, rfl⟩, rfl, .inl ⟨rfl, rfl⟩, by first | exact le1 hd h8 | exact le2 hd h8 | exact le3 hd h8 | (rw [List.nil_append, hd]; simp only [List.length_append, List.length_cons, List.length_nil] at h8 ⊢; omega), trivial, by rw [List.nil_append, hd]; exact h13⟩ hmu).2)
              | false =>
                replace h13 := q_f h13 hln hcq
                obtain rfl := Option.some.inj h13
                k_steps
                all_goals (exact hB ⟨_, _, _, _, _, _, _, _, _, true⟩ _ _ _ (by assumption) (by first | assumption | exact news_tl (by assumption)) (by repeat' (first | exact fo_0 | apply fo_n | apply fo_e | apply fo_q)) ⟨(l ++ [c]), .white, none, by rw [hd], rfl, by first | exact le4 h8 | exact le5 h8 | exact le6 | (simp only [List.length_append, List.length_cons, List.length_nil] at h8 ⊢; omega), ⟨_, rfl⟩, .inl ⟨rfl, rfl⟩, fun e => nomatch e⟩)
            | false =>
              walk1
              (repeat' (first | (k_unfold; (try dsimp only)) | ((fail_if_success (with_reducible show wpAny _ _ (compareOp CmpOp.In (Value.str (Str.mk #[_]) _) _) _ _ _)); (fail_if_success (with_reducible show wpAny _ _ (isTrue (Expr.BoolOp _ _ _) _ _) _ _ _)); walk1)))
              walk1
              (repeat' (first | (k_unfold; (try dsimp only)) | ((fail_if_success (with_reducible show wpAny _ _ (compareOp CmpOp.In (Value.str (Str.mk #[_]) _) _) _ _ _)); (fail_if_success (with_reducible show wpAny _ _ (isTrue (Expr.BoolOp _ _ _) _ _) _ _ _)); walk1)))
              cases hbd : (b && isE c && isD q0) with
              | true =>
                replace h13 := q_b h13 hln hcq hbd
                obtain ⟨⟨rfl, hes⟩, hdq⟩ : (b = true ∧ isE c = true) ∧ isD q0 = true := by simpa using hbd
                obtain rfl := isE_is hes
                have hes : (Str.ofString "\\").cps.toList.contains 92 = true := hes
                have hdq : (Str.ofString "\"").cps.toList.contains q0 = true := hdq
                k_steps
                all_goals (first | exact (hI ⟨_, _, _, _, _, _, _, _, _, true⟩ _ _ _ (by assumption) (by first | assumption | exact news_tl (by assumption)) (by repeat' (first | exact fo_0 | apply fo_n | apply fo_e | apply fo_q)) ⟨.esc, l, [], fun _ => ⟨rfl, fun e => nomatch e⟩, ⟨_, rfl⟩, rfl, .inl ⟨rfl, rfl⟩, by first | exact le1 hd h8 | exact le2 hd h8 | exact le3 hd h8 | (rw [List.nil_append, hd]; simp only [List.length_append, List.length_cons, List.length_nil] at h8 ⊢; omega), trivial, by rw [List.nil_append, hd]; exact h13⟩ hmu).1 | exact (hI ⟨_, _, _, _, _, _, _, _, _, true⟩ _ _ _ (by assumption) (by first | assumption | exact news_tl (by assumption)) (by repeat' (first | exact fo_0 | apply fo_n | apply fo_e | apply fo_q)) ⟨.esc, l, [], fun _ => ⟨rfl, fun e => nomatch e⟩, ⟨_, rfl⟩, rfl, .inl ⟨rfl, rfl⟩, by first | exact le1 hd h8 | exact le2 hd h8 | exact le3 hd h8 | (rw [List.nil_append, hd]; simp only [List.length_append, List.length_cons, List.length_nil] at h8 ⊢; omega), trivial, by rw [List.nil_append, hd]; exact h13⟩ hmu).2)
              | false =>
                have h14 := hbd; replace h13 := q_c h13 hln hcq hbd
                refine test_f ?_ (fun tk => ?_)
                ·
                  cases b with
                  | false =>
                    k_steps
                    all_goals exact ⟨rfl, _, rfl⟩
                  | true =>
                    cases hes : (Str.ofString "\\").cps.toList.contains c with
                    | false =>
                      k_steps
                      all_goals exact ⟨rfl, _, rfl⟩
                    | true =>
                      have hdq : (Str.ofString "\"").cps.toList.contains q0 = false := by rw [(show isE c = true from hes)] at hbd; exact hbd
                      k_steps
                      all_goals exact ⟨rfl, _, rfl⟩
                ·
                  k_steps
                  all_goals (first | exact (hI ⟨_, _, _, _, _, _, _, _, _, true⟩ _ _ _ (by assumption) (by first | assumption | exact news_tl (by assumption)) (by repeat' (first | exact fo_0 | apply fo_n | apply fo_e | apply fo_q)) ⟨.quote q0, (l ++ [c]), [], fun _ => ⟨rfl, fun e => nomatch e⟩, ⟨hq0, _, rfl⟩, rfl, .inl ⟨rfl, rfl⟩, by first | exact le1 hd h8 | exact le2 hd h8 | exact le3 hd h8 | (rw [List.nil_append, hd]; simp only [List.length_append, List.length_cons, List.length_nil] at h8 ⊢; omega), trivial, by rw [List.nil_append, hd]; exact h13⟩ hmu).1 | exact (hI ⟨_, _, _, _, _, _, _, _, _, true⟩ _ _ _ (by assumption) (by first | assumption | exact news_tl (by assumption)) (by repeat' (first | exact fo_0 | apply fo_n | apply fo_e | apply fo_q)) ⟨.quote q0, (l ++ [c]), [], fun _ => ⟨rfl, fun e => nomatch e⟩, ⟨hq0, _, rfl⟩, rfl, .inl ⟨rfl, rfl⟩, by first | exact le1 hd h8 | exact le2 hd h8 | exact le3 hd h8 | (rw [List.nil_append, hd]; simp only [List.length_append, List.length_cons, List.length_nil] at h8 ⊢; omega), trivial, by rw [List.nil_append, hd]; exact h13⟩ hmu).2)
          | esc =>
            simp [re_nf, re_nw, re_no, re_nx, re_np, re_cf, re_ce] at h13
  · rintro ⟨sv', ln', tl', tok, tt', pos', tp', pcv', pcn', q⟩ u h tk ⟨tok', st', push, e, h6, h7, h8, h9, h10⟩ F2 N2
    dsimp only at e h6 h8 h9 h10 N2 F2
    subst h6
    cases b with
    | true =>
      obtain ⟨rfl, hle⟩ := h10 rfl
      k_steps
      all_goals (exact hQ _ _ _ _ _ _ _ _ _ _ _ _ _ _ _ (by assumption) (by assumption) e h8 h9 rfl)
    | false =>
      k_steps
      all_goals (exact hQ _ _ _ _ _ _ _ _ _ _ _ _ _ _ _ (by assumption) (by assumption) e h8 h9 rfl)
end
end Mine

end
end
section
namespace Mine
abbrev TIP := TIG
abbrev msgP := msgG
abbrev msgN := msgG
def TIN (b : Bool) (st : S5) (l : List Nat) (q : Bool) : Prop := match st with
  | .white => l = [] ∧ (b = true → q = false)
  | .word => l.isEmpty = false ∧ (b = true → q = false)
  | .punct => False
  | _ => True
theorem ti_NG {b : Bool} {st : S5} {l : List Nat} {q : Bool} (h : TIN b st l q) : TIG b st l q ∧ st ≠ .punct := by
  cases st <;> first | exact ⟨h, fun e => nomatch e⟩ | exact h.elim
section
variable {w : World} {A₀ : Around} {base h₀ : Heap} {outer : List Env} {L : Addr} {m mg mb : Str → Option Value} {loose : List Str} {mean : ExcName → Option Value} {s : Shared} {Q E : Value → Shared → Prop} {p : Program}
  {hdl : Option Value} {d u : Nat} {gs : Option (List Code)} {rest : List (Addr × Obj)} {ns : List (Str × NameKind)} {ig ic : Bool} {mo : List (Str × Const)} {gl bi : Addr} {cs : List (Str × Addr)} {qn : Str} {fo : Option Addr} {cdv : Value}
theorem rtokP {lx dx io iod pb fs pc : Addr} {x wc cm pu tkx : Str} {pos : Nat} {kt : IoT} {lt1 : LxT} {k19 : Tok} {b sp : Bool} {ev f sv : Value} {ln : Int} {t2 tl tt : Tok} {pcv : List Value} {pcn : Int} {st : S5} {pq l0 : List Nat} {R : R5}
  (B : Below A₀ base outer h₀) (F : Fr h₀ L s.heap m) (X : (hd.heap_1 w.params).In h₀) (T : Top p loose mean mg mb h₀) (hdp : d < 900) (hun : u < 9000)
  (hx : x.length ≤ 100000) (h1 : @LT.lt Nat _ dx lx) (h2 : @LT.lt Nat _ lx iod) (h3 : @LT.lt Nat _ iod io) (h4 : @LT.lt Nat _ io pc) (hr1 : ∀ p ∈ rest, p.1 ≠ iod) (hr2 : ∀ p ∈ rest, p.1 ≠ dx) (hr3 : ∀ p ∈ rest, p.1 ≠ pc)
  (hsv : SV5 st sv) (hpc : PC pcv pq) (htk : tkx = S l0) (hti : TIP b st l0 false) (hlen : l0.length + (pq ++ x.cps.toList.drop pos).length ≤ 100000) (hpu : pu.cps.toList.isEmpty = false) (hpl : pu.length ≤ 100000)
  (hrt : rt5 false b sp (fun c => wc.cps.toList.contains c) (fun c => pu.cps.toList.contains c) (fun c => cm.cps.toList.contains c) (pq ++ x.cps.toList.drop pos) st l0 ln = some R)
  (N : News h₀ L s.heap ((io, instObj 587 iod) :: (iod, ioD w.params kt x pos t2) :: (pc, dqO pcv pcn) :: (lx, instObj 722 dx) :: (dx, lexP w.params lt1 k19 b sp ev cm wc pu pb fs io pc f sv ln tl tkx tt) :: rest))
  (hQ : ∀ h' v sv' ln' tl' tt' pos' t2' pcv' pcn' k tok st' push t, Fr h₀ L h' m → News h₀ L h' ((io, instObj 587 iod) :: (iod, ioD w.params kt x pos' t2') :: (pc, dqO pcv' pcn') :: (lx, instObj 722 dx) :: (dx, lexP w.params lt1 k19 b sp ev cm wc pu pb fs io pc f sv' ln' tl' (S []) tt') :: rest) →
    R = .ok tok st' (x.cps.toList.drop pos') ln' push → SV5 st' sv' → PC pcv' push.toList → v = .str (S tok) t → Q v { s with heap := h', toks := k })
  (hE : ∀ h' e t g' sv' ln' tl' tt' pos' t2' pcn' k tok st' tv, RaisedS base g' (fenv ns ig ic mo gl cs qn fo cdv bi L :: outer) e (.type "ValueError") t [.str (msgP st') tv] ((io, instObj 587 iod) :: (iod, ioD w.params kt x pos' t2') :: (pc, dqO [] pcn') :: (lx, instObj 722 dx) :: (dx, lexP w.params lt1 k19 b sp ev cm wc pu pb fs io pc f sv' ln' tl' (S tok) tt') :: rest) h' → Fr h₀ L g' m → g'.UpToSlots h' →
    R = .fault tok st' ln' → SV5 st' sv' → x.cps.toList.drop pos' = [] → E (.ref e) { s with heap := h', toks := k })
  : wpAny (model prog w) (ar none d (fenv ns ig ic mo gl cs qn fo cdv bi L :: outer) gs u) (call (.ref 690) [.ref lx]) Q E s :=
  rtokG (K := ⟨kt, lt1, ev, f, io, iod, lx, dx, fs⟩) (ex := [ent w.params "_pushback_chars" k19 (.ref pc)]) B F X T hdp hun hx (apG h1 h2 h3 h4 hr1 hr2 hr3) hsv hpc htk hti hlen (.inr ⟨hpu, hpl, k19, rfl⟩) (fun e => by rw [hpu] at e; cases e) hrt N hQ hE
theorem rtokN {lx dx io iod pb fs pc : Addr} {x wc cm pu tkx : Str} {pos : Nat} {kt : IoT} {lt1 : LxT} {k19 : Tok} {b sp : Bool} {ev f sv : Value} {ln : Int} {t2 tl tt : Tok} {pcv : List Value} {pcn : Int} {st : S5} {pq l0 : List Nat} {R : R5}
  (B : Below A₀ base outer h₀) (F : Fr h₀ L s.heap m) (X : (hd.heap_1 w.params).In h₀) (T : Top p loose mean mg mb h₀) (hdp : d < 900) (hun : u < 9000)
  (hx : x.length ≤ 100000) (h1 : @LT.lt Nat _ dx lx) (h2 : @LT.lt Nat _ lx iod) (h3 : @LT.lt Nat _ iod io) (h4 : @LT.lt Nat _ io pc) (hr1 : ∀ p ∈ rest, p.1 ≠ iod) (hr2 : ∀ p ∈ rest, p.1 ≠ dx) (hr3 : ∀ p ∈ rest, p.1 ≠ pc)
  (hsv : SV5 st sv) (hpc : pcv = []) (htk : tkx = S l0) (hti : TIN b st l0 false) (hlen : l0.length + (x.cps.toList.drop pos).length ≤ 100000) 
  (hrt : rt5 false b sp (fun c => wc.cps.toList.contains c) (fun _ => false) (fun c => cm.cps.toList.contains c) (x.cps.toList.drop pos) st l0 ln = some R)
  (N : News h₀ L s.heap ((io, instObj 587 iod) :: (iod, ioD w.params kt x pos t2) :: (pc, dqO pcv pcn) :: (lx, instObj 722 dx) :: (dx, lexD w.params lt1 b sp ev cm wc pc fs io f sv ln tl tkx tt) :: rest))
  (hQ : ∀ h' v sv' ln' tl' tt' pos' t2' pcv' pcn' k tok st' push t, Fr h₀ L h' m → News h₀ L h' ((io, instObj 587 iod) :: (iod, ioD w.params kt x pos' t2') :: (pc, dqO pcv' pcn') :: (lx, instObj 722 dx) :: (dx, lexD w.params lt1 b sp ev cm wc pc fs io f sv' ln' tl' (S []) tt') :: rest) →
    R = .ok tok st' (x.cps.toList.drop pos') ln' push → SV5 st' sv' → PC pcv' push.toList → v = .str (S tok) t → Q v { s with heap := h', toks := k })
  (hE : ∀ h' e t g' sv' ln' tl' tt' pos' t2' pcn' k tok st' tv, RaisedS base g' (fenv ns ig ic mo gl cs qn fo cdv bi L :: outer) e (.type "ValueError") t [.str (msgN st') tv] ((io, instObj 587 iod) :: (iod, ioD w.params kt x pos' t2') :: (pc, dqO [] pcn') :: (lx, instObj 722 dx) :: (dx, lexD w.params lt1 b sp ev cm wc pc fs io f sv' ln' tl' (S tok) tt') :: rest) h' → Fr h₀ L g' m → g'.UpToSlots h' →
    R = .fault tok st' ln' → SV5 st' sv' → x.cps.toList.drop pos' = [] → E (.ref e) { s with heap := h', toks := k })
  : wpAny (model prog w) (ar none d (fenv ns ig ic mo gl cs qn fo cdv bi L :: outer) gs u) (call (.ref 690) [.ref lx]) Q E s := by
  have e : (fun c => (Str.ofString "").cps.toList.contains c) = fun _ => false := by funext c; rw [S_nil]; rfl
  exact rtokG (K := ⟨kt, lt1, ev, f, io, iod, lx, dx, fs⟩) (ex := []) (pu := Str.ofString "") (pb := pc) (pq := []) B F X T hdp hun hx (apG h1 h2 h3 h4 hr1 hr2 hr3) hsv (.inl ⟨hpc, rfl⟩) htk (ti_NG hti).1 hlen (.inl ⟨rfl, rfl, rfl⟩) (fun _ => ⟨rfl, (ti_NG hti).2⟩) (by rw [e]; exact hrt) N hQ hE
end
end Mine

end
section
local macro_rules | `(tactic| walk_at "getMethod ref") => `(tactic| (k_here; (with_reducible show wpAny _ _ (getMethod (Value.ref _) (Str.ofString "appendleft") _) _ _ _); k_dflt (refine' Mine.dq_method Mine.dq_slot_appendleft Mine.dq_type_appendleft ?N ?m ?_; (case N => k_asm); (case m => k_mem); k_whole)))
local macro_rules | `(tactic| walk_at "getMethod ref") => `(tactic| (k_here; (with_reducible show wpAny _ _ (getMethod (Value.ref _) (Str.ofString "popleft") _) _ _ _); k_dflt (refine' Mine.dq_method Mine.dq_slot_popleft Mine.dq_type_popleft ?N ?m ?_; (case N => k_asm); (case m => k_mem); k_whole)))
local macro_rules | `(tactic| walk_at "call builtin:collections.deque.appendleft") => `(tactic| (k_here; k_dflt (refine' Mine.dq_appendleft (by k_asm) (by k_asm) (by k_upd) (by assumption) ?_; k_whole); intro h' F' N'; (try dsimp only); (try k_sweep)))
local macro_rules | `(tactic| walk_at "call builtin:collections.deque.popleft") => `(tactic| (k_here; k_dflt (refine' Mine.dq_popleft (by k_asm) (by k_asm) (by k_upd) (by assumption) ?_; k_whole); intro h' F' N'; (try dsimp only); (try k_sweep)))
local macro_rules | `(tactic| walk_at "truthy ref") => `(tactic| (k_here; k_dflt (refine' Mine.dq_truthy ?N ?m ?sz ?_; (case N => k_asm); (case m => k_mem); (case sz => first | assumption | (simp only [List.length_cons, List.length_nil]; omega)); k_whole); (try dsimp only [List.isEmpty_cons, List.isEmpty_nil, Bool.not_true, Bool.not_false])))
section
namespace Mine
def GV (ev : Value) (tok : List Nat) (v : Value) : Prop := if tok.isEmpty then v = ev else ∃ t, v = .str (S tok) t
theorem eq_end {w : World} {A : Around} {E : Value → Shared → Prop} {s : Shared} {Q : Value → Shared → Prop} {b : Bool} {tok : List Nat} {v ev : Value} (hR : RV b tok v) (hE : EV b ev) (h : Q (.bool tok.isEmpty) s) : wpAny (model prog w) A (compareOp .Eq v ev) Q E s := by
  unfold RV at hR
  unfold EV at hE
  cases b with
  | true =>
    simp only [if_true] at hE
    subst hE
    cases ht : tok.isEmpty with
    | true =>
      rw [ht] at hR h
      simp only [Bool.and_true, if_true] at hR
      subst hR
      exact PySem.EqNone.eq_none_none h
    | false =>
      rw [ht] at hR h
      simp only [Bool.and_false, Bool.false_eq_true, if_false] at hR
      obtain ⟨t, rfl⟩ := hR
      exact PySem.EqNone.eq_str_none h
  | false =>
    simp only [Bool.false_eq_true, if_false, Bool.false_and] at hE hR
    obtain ⟨t, rfl⟩ := hR
    obtain ⟨t, rfl⟩ := hE
    exact eq_S rfl h
theorem while_once {w : World} {A : Around} {E : Value → Shared → Prop} {Q : Flow → Shared → Prop} {s : Shared} {env : Env} {h₀ : Heap} {L : Addr} {test : Expr} {body : List Stmt} {pos : Pos} {m : Str → Option Value} {news : List (Addr × Obj)}
    (F : Fr h₀ L s.heap m) (N : News h₀ L s.heap news)
    (turn : ∀ h₁ tk₁, Fr h₀ L h₁ m → News h₀ L h₁ news →
      wpAny (model prog w) A (isTrue test env (eval test env)) (fun b s₂ =>
        if b = true then wpAny (model prog w) A (execs body env) (WhileStep2 h₀ L s (fun n m₁ nx => n = 0 ∧ m₁ = m ∧ nx = news) Q 0) E s₂ else Q .next s₂) E { s with heap := h₁, toks := tk₁ })
    (hE : PassesOwn (model prog w) A env E := by passes_own) :
    wpAny (model prog w) A (exec (.While test body [] pos) env) Q E s :=
  While_inv2 (n₀ := 0) (fun n m₁ nx => n = 0 ∧ m₁ = m ∧ nx = news) F N ⟨rfl, rfl, rfl⟩ (fun n m₁ nx h tk F₁ N₁ e => by
    obtain ⟨rfl, rfl, rfl⟩ := e
    exact turn h tk F₁ N₁) hE
theorem ev_handed {b : Bool} {ev : Value} (h : EV b ev) : handedIn ev = true := by
  unfold EV at h
  cases b with
  | true => simp only [if_true] at h; subst h; rfl
  | false => simp only [Bool.false_eq_true, if_false] at h; obtain ⟨t, rfl⟩ := h; rfl
end Mine
namespace Mine
section
variable {w : World} {A₀ : Around} {base h₀ : Heap} {outer : List Env} {L : Addr} {m mg mb : Str → Option Value} {loose : List Str} {mean : ExcName → Option Value} {s : Shared} {Q E : Value → Shared → Prop} {p : Program}
  {hdl : Option Value} {d u : Nat} {gs : Option (List Code)} {rest : List (Addr × Obj)} {ns : List (Str × NameKind)} {ig ic : Bool} {mo : List (Str × Const)} {gl bi : Addr} {cs : List (Str × Addr)} {qn : Str} {fo : Option Addr} {cdv : Value}
theorem push_tok {lx dx io pb fs : Addr} {wc cm tkx : Str} {lt1 : LxT} {b sp : Bool} {ev f sv tv : Value} {ln : Int} {tl tt : Tok} {pbs : List Value} {pn : Int}
  (B : Below A₀ base outer h₀) (F : Fr h₀ L s.heap m) (X : (hd.heap_1 w.params).In h₀) (T : Top p loose mean mg mb h₀) (hdp : d < 900) (hun : u < 9000)
  (h1 : @LT.lt Nat _ dx lx) (h5 : @LT.lt Nat _ lx pb) (hr3 : ∀ p ∈ rest, p.1 ≠ pb) (hpb : pbs.length ≤ 900000)
  (N : News h₀ L s.heap ((pb, dqO pbs pn) :: (lx, instObj 722 dx) :: (dx, lexD w.params lt1 b sp ev cm wc pb fs io f sv ln tl tkx tt) :: rest))
  (hQ : ∀ h' k, Fr h₀ L h' m → News h₀ L h' ((pb, dqO (tv :: pbs) (pn + 1)) :: (lx, instObj 722 dx) :: (dx, lexD w.params lt1 b sp ev cm wc pb fs io f sv ln tl tkx tt) :: rest) → Q .none { s with heap := h', toks := k })
  : wpAny (model prog w) (ar hdl d (fenv ns ig ic mo gl cs qn fo cdv bi L :: outer) gs u) (call (.ref 661) [.ref lx, tv]) Q E s := by
  refine wpAny_call ?_
  k_enter
  k_steps
  exact hQ _ _ (by assumption) (by assumption)
theorem get_tok1 {lx dx io pb fs : Addr} {wc cm tkx : Str} {lt1 : LxT} {b sp : Bool} {ev f sv tv : Value} {ln : Int} {tl tt : Tok} {pbs : List Value} {pn : Int}
  (B : Below A₀ base outer h₀) (F : Fr h₀ L s.heap m) (X : (hd.heap_1 w.params).In h₀) (T : Top p loose mean mg mb h₀) (hdp : d < 900) (hun : u < 9000)
  (h1 : @LT.lt Nat _ dx lx) (h5 : @LT.lt Nat _ lx pb) (hr3 : ∀ p ∈ rest, p.1 ≠ pb) (hpb : pbs.length < 900000)
  (N : News h₀ L s.heap ((pb, dqO (tv :: pbs) pn) :: (lx, instObj 722 dx) :: (dx, lexD w.params lt1 b sp ev cm wc pb fs io f sv ln tl tkx tt) :: rest))
  (hQ : ∀ h' k, Fr h₀ L h' m → News h₀ L h' ((pb, dqO pbs (pn + 1)) :: (lx, instObj 722 dx) :: (dx, lexD w.params lt1 b sp ev cm wc pb fs io f sv ln tl tkx tt) :: rest) → Q tv { s with heap := h', toks := k })
  : wpAny (model prog w) (ar hdl d (fenv ns ig ic mo gl cs qn fo cdv bi L :: outer) gs u) (call (.ref 683) [.ref lx]) Q E s := by
  have hpb' : pbs.length ≤ 900000 := by omega
  refine wpAny_call ?_
  k_enter
  k_steps
  exact hQ _ _ (by assumption) (by assumption)
end
end Mine

end
section
namespace Mine
section
variable {w : World} {A₀ : Around} {base h₀ : Heap} {outer : List Env} {L : Addr} {m mg mb : Str → Option Value} {loose : List Str} {mean : ExcName → Option Value} {s : Shared} {Q E : Value → Shared → Prop} {p : Program}
  {hdl : Option Value} {d u : Nat} {gs : Option (List Code)} {rest : List (Addr × Obj)} {ns : List (Str × NameKind)} {ig ic : Bool} {mo : List (Str × Const)} {gl bi : Addr} {cs : List (Str × Addr)} {qn : Str} {fo : Option Addr} {cdv : Value}
theorem gtP {lx dx io iod pb fs pc : Addr} {x wc cm pu tkx : Str} {pos : Nat} {kt : IoT} {lt1 : LxT} {k19 : Tok} {pk : Int} {pq : List Nat} {pcv : List Value} {b sp : Bool} {ev f sv : Value} {ln fn : Int} {t2 tl tt : Tok} {pcn : Int} {st : S5} {l0 : List Nat} {R : R5}
  (B : Below A₀ base outer h₀) (F : Fr h₀ L s.heap m) (X : (hd.heap_1 w.params).In h₀) (T : Top p loose mean mg mb h₀) (hdp : d < 800) (hun : u < 8000)
  (hx : x.length ≤ 100000) (h1 : @LT.lt Nat _ dx lx) (h2 : @LT.lt Nat _ lx iod) (h3 : @LT.lt Nat _ iod io) (h4 : @LT.lt Nat _ io pc) (hr1 : ∀ p ∈ (pb, dqO [] pk) :: (fs, dqO [] fn) :: rest, p.1 ≠ iod) (hr2 : ∀ p ∈ (pb, dqO [] pk) :: (fs, dqO [] fn) :: rest, p.1 ≠ dx) (hr3 : ∀ p ∈ (pb, dqO [] pk) :: (fs, dqO [] fn) :: rest, p.1 ≠ pc)
  (hsv : SV5 st sv) (hpc : PC pcv pq) (htk : tkx = S l0) (hti : TIP b st l0 false) (hlen : l0.length + (pq ++ x.cps.toList.drop pos).length ≤ 100000) (hpu : pu.cps.toList.isEmpty = false) (hpl : pu.length ≤ 100000)
  (hrt : rt5 false b sp (fun c => wc.cps.toList.contains c) (fun c => pu.cps.toList.contains c) (fun c => cm.cps.toList.contains c) (pq ++ x.cps.toList.drop pos) st l0 ln = some R) (hne : ∀ tok st' rem ln' push, R = .ok tok st' rem ln' push → tok.isEmpty = false) (hEV : EV b ev)
  (N : News h₀ L s.heap ((io, instObj 587 iod) :: (iod, ioD w.params kt x pos t2) :: (pc, dqO pcv pcn) :: (lx, instObj 722 dx) :: (dx, lexP w.params lt1 k19 b sp ev cm wc pu pb fs io pc f sv ln tl tkx tt) :: (pb, dqO [] pk) :: (fs, dqO [] fn) :: rest))
  (hQ : ∀ h' v sv' ln' tl' tt' pos' t2' pcv' pcn' k tok st' push t, Fr h₀ L h' m → News h₀ L h' ((io, instObj 587 iod) :: (iod, ioD w.params kt x pos' t2') :: (pc, dqO pcv' pcn') :: (lx, instObj 722 dx) :: (dx, lexP w.params lt1 k19 b sp ev cm wc pu pb fs io pc f sv' ln' tl' (S []) tt') :: (pb, dqO [] pk) :: (fs, dqO [] fn) :: rest) →
    R = .ok tok st' (x.cps.toList.drop pos') ln' push → SV5 st' sv' → PC pcv' push.toList → v = .str (S tok) t → Q v { s with heap := h', toks := k })
  (hE : ∀ h' e t g' sv' ln' tl' tt' pos' t2' pcn' k tok st' tv, RaisedS base g' (fenv ns ig ic mo gl cs qn fo cdv bi L :: outer) e (.type "ValueError") t [.str (msgP st') tv] ((io, instObj 587 iod) :: (iod, ioD w.params kt x pos' t2') :: (pc, dqO [] pcn') :: (lx, instObj 722 dx) :: (dx, lexP w.params lt1 k19 b sp ev cm wc pu pb fs io pc f sv' ln' tl' (S tok) tt') :: (pb, dqO [] pk) :: (fs, dqO [] fn) :: rest) h' → Fr h₀ L g' m → g'.UpToSlots h' →
    R = .fault tok st' ln' → SV5 st' sv' → x.cps.toList.drop pos' = [] → E (.ref e) { s with heap := h', toks := k })
  : wpAny (model prog w) (ar none d (fenv ns ig ic mo gl cs qn fo cdv bi L :: outer) gs u) (call (.ref 683) [.ref lx]) Q E s := by
  have hevh := ev_handed hEV
  refine wpAny_call ?_
  k_enter
  (repeat' (first | (k_unfold; (try dsimp only)) | ((fail_if_success (with_reducible show wpAny _ _ (call (Value.ref 690) [Value.ref _]) _ _ _)); walk1)))
  refine' rtokP (pq := pq) ?k1 ?k2 ?k3 ?k4 ?k5 ?k6 hx h1 h2 h3 h4 hr1 hr2 hr3 hsv hpc htk hti hlen hpu hpl hrt ?k22 ?_ ?_
  case k22 => with_reducible assumption
  case k1 => with_reducible assumption
  case k2 => with_reducible assumption
  case k3 => with_reducible assumption
  case k4 => with_reducible assumption
  case k5 => k_room
  case k6 => k_units
  · intro h' v' sv' ln' tl' tt' pos' t2' pcv' pcn' k' tok st' push t F' N' e1' e2' e3' e4'
    subst e4'
    have hemp := hne _ _ _ _ _ e1'
    have hRV : RV b tok (.str (S tok) t) := by unfold RV; rw [hemp]; simp
    (try dsimp only)
    (repeat' (first | (k_unfold; (try dsimp only)) | ((fail_if_success (with_reducible show wpAny _ _ (exec (Stmt.While _ _ _ _) _) _ _ _)); walk1)))
    clear N
    rename Fr _ _ _ _ => F1
    rename News _ _ _ _ => N1
    refine while_once F1 N1 ?_ (by passes_own)
    intro h tk F2 N2
    clear F1 N1
    (repeat' (first | (k_unfold; (try dsimp only)) | ((fail_if_success (with_reducible show wpAny _ _ (compareOp CmpOp.Eq _ _) _ _ _)); walk1)))
    refine eq_end hRV hEV ?_
    rw [hemp]
    k_steps
    exact hQ h _ sv' ln' tl' tt' pos' t2' pcv' pcn' _ tok st' push t (by assumption) (by assumption) e1' e2' e3' rfl
  · intro h' e t g' sv' ln' tl' tt' pos' t2' pcn' k' tok st' tv S' FG' U' e1' e2' e3'
    (try dsimp only)
    k_steps
    exact hE _ _ _ _ sv' ln' tl' tt' pos' t2' pcn' _ tok st' tv (by assumption) (by assumption) (by assumption) e1' e2' e3' 
theorem push_tokP {lx dx io pb fs pc : Addr} {wc cm pu tkx : Str} {lt1 : LxT} {k19 : Tok} {b sp : Bool} {ev f sv tv : Value} {ln : Int} {tl tt : Tok} {pbs : List Value} {pn : Int}
  (B : Below A₀ base outer h₀) (F : Fr h₀ L s.heap m) (X : (hd.heap_1 w.params).In h₀) (T : Top p loose mean mg mb h₀) (hdp : d < 900) (hun : u < 9000)
  (h1 : @LT.lt Nat _ dx lx) (h5 : @LT.lt Nat _ lx pb) (hr3 : ∀ p ∈ rest, p.1 ≠ pb) (hpb : pbs.length ≤ 900000)
  (N : News h₀ L s.heap ((pb, dqO pbs pn) :: (lx, instObj 722 dx) :: (dx, lexP w.params lt1 k19 b sp ev cm wc pu pb fs io pc f sv ln tl tkx tt) :: rest))
  (hQ : ∀ h' k, Fr h₀ L h' m → News h₀ L h' ((pb, dqO (tv :: pbs) (pn + 1)) :: (lx, instObj 722 dx) :: (dx, lexP w.params lt1 k19 b sp ev cm wc pu pb fs io pc f sv ln tl tkx tt) :: rest) → Q .none { s with heap := h', toks := k })
  : wpAny (model prog w) (ar hdl d (fenv ns ig ic mo gl cs qn fo cdv bi L :: outer) gs u) (call (.ref 661) [.ref lx, tv]) Q E s := by
  have hpb' : pbs.length ≤ 900000 := by omega
  refine wpAny_call ?_
  k_enter
  k_steps
  exact hQ _ _ (by assumption) (by assumption)
theorem get_tok1P {lx dx io pb fs pc : Addr} {wc cm pu tkx : Str} {lt1 : LxT} {k19 : Tok} {b sp : Bool} {ev f sv tv : Value} {ln : Int} {tl tt : Tok} {pbs : List Value} {pn : Int}
  (B : Below A₀ base outer h₀) (F : Fr h₀ L s.heap m) (X : (hd.heap_1 w.params).In h₀) (T : Top p loose mean mg mb h₀) (hdp : d < 900) (hun : u < 9000)
  (h1 : @LT.lt Nat _ dx lx) (h5 : @LT.lt Nat _ lx pb) (hr3 : ∀ p ∈ rest, p.1 ≠ pb) (hpb : pbs.length < 900000)
  (N : News h₀ L s.heap ((pb, dqO (tv :: pbs) pn) :: (lx, instObj 722 dx) :: (dx, lexP w.params lt1 k19 b sp ev cm wc pu pb fs io pc f sv ln tl tkx tt) :: rest))
  (hQ : ∀ h' k, Fr h₀ L h' m → News h₀ L h' ((pb, dqO pbs (pn + 1)) :: (lx, instObj 722 dx) :: (dx, lexP w.params lt1 k19 b sp ev cm wc pu pb fs io pc f sv ln tl tkx tt) :: rest) → Q tv { s with heap := h', toks := k })
  : wpAny (model prog w) (ar hdl d (fenv ns ig ic mo gl cs qn fo cdv bi L :: outer) gs u) (call (.ref 683) [.ref lx]) Q E s := by
  have hpb' : pbs.length ≤ 900000 := by omega
  refine wpAny_call ?_
  k_enter
  k_steps
  exact hQ _ _ (by assumption) (by assumption)
end
end Mine

end
section
namespace Mine
section
variable {w : World} {A₀ : Around} {base h₀ : Heap} {outer : List Env} {L : Addr} {m mg mb : Str → Option Value} {loose : List Str} {mean : ExcName → Option Value} {s : Shared} {Q E : Value → Shared → Prop} {p : Program}
  {hdl : Option Value} {d u : Nat} {gs : Option (List Code)} {rest : List (Addr × Obj)} {ns : List (Str × NameKind)} {ig ic : Bool} {mo : List (Str × Const)} {gl bi : Addr} {cs : List (Str × Addr)} {qn : Str} {fo : Option Addr} {cdv : Value}
theorem gtN {lx dx io iod fs pc : Addr} {x wc cm tkx : Str} {pos : Nat} {kt : IoT} {lt1 : LxT} {b sp : Bool} {ev f sv : Value} {ln fn : Int} {t2 tl tt : Tok} {pcn : Int} {st : S5} {l0 : List Nat} {R : R5}
  (B : Below A₀ base outer h₀) (F : Fr h₀ L s.heap m) (X : (hd.heap_1 w.params).In h₀) (T : Top p loose mean mg mb h₀) (hdp : d < 800) (hun : u < 8000)
  (hx : x.length ≤ 100000) (h1 : @LT.lt Nat _ dx lx) (h2 : @LT.lt Nat _ lx iod) (h3 : @LT.lt Nat _ iod io) (h4 : @LT.lt Nat _ io pc) (hr1 : ∀ p ∈ (fs, dqO [] fn) :: rest, p.1 ≠ iod) (hr2 : ∀ p ∈ (fs, dqO [] fn) :: rest, p.1 ≠ dx) (hr3 : ∀ p ∈ (fs, dqO [] fn) :: rest, p.1 ≠ pc)
  (hsv : SV5 st sv)  (htk : tkx = S l0) (hti : TIN b st l0 false) (hlen : l0.length + (x.cps.toList.drop pos).length ≤ 100000) 
  (hrt : rt5 false b sp (fun c => wc.cps.toList.contains c) (fun _ => false) (fun c => cm.cps.toList.contains c) (x.cps.toList.drop pos) st l0 ln = some R) (hne : ∀ tok st' rem ln' push, R = .ok tok st' rem ln' push → tok.isEmpty = false) (hEV : EV b ev)
  (N : News h₀ L s.heap ((io, instObj 587 iod) :: (iod, ioD w.params kt x pos t2) :: (pc, dqO [] pcn) :: (lx, instObj 722 dx) :: (dx, lexD w.params lt1 b sp ev cm wc pc fs io f sv ln tl tkx tt) :: (fs, dqO [] fn) :: rest))
  (hQ : ∀ h' v sv' ln' tl' tt' pos' t2' pcv' pcn' k tok st' push t, Fr h₀ L h' m → News h₀ L h' ((io, instObj 587 iod) :: (iod, ioD w.params kt x pos' t2') :: (pc, dqO pcv' pcn') :: (lx, instObj 722 dx) :: (dx, lexD w.params lt1 b sp ev cm wc pc fs io f sv' ln' tl' (S []) tt') :: (fs, dqO [] fn) :: rest) →
    R = .ok tok st' (x.cps.toList.drop pos') ln' push → SV5 st' sv' → PC pcv' push.toList → v = .str (S tok) t → Q v { s with heap := h', toks := k })
  (hE : ∀ h' e t g' sv' ln' tl' tt' pos' t2' pcn' k tok st' tv, RaisedS base g' (fenv ns ig ic mo gl cs qn fo cdv bi L :: outer) e (.type "ValueError") t [.str (msgN st') tv] ((io, instObj 587 iod) :: (iod, ioD w.params kt x pos' t2') :: (pc, dqO [] pcn') :: (lx, instObj 722 dx) :: (dx, lexD w.params lt1 b sp ev cm wc pc fs io f sv' ln' tl' (S tok) tt') :: (fs, dqO [] fn) :: rest) h' → Fr h₀ L g' m → g'.UpToSlots h' →
    R = .fault tok st' ln' → SV5 st' sv' → x.cps.toList.drop pos' = [] → E (.ref e) { s with heap := h', toks := k })
  : wpAny (model prog w) (ar none d (fenv ns ig ic mo gl cs qn fo cdv bi L :: outer) gs u) (call (.ref 683) [.ref lx]) Q E s := by
  have hevh := ev_handed hEV
  refine wpAny_call ?_
  k_enter
  (repeat' (first | (k_unfold; (try dsimp only)) | ((fail_if_success (with_reducible show wpAny _ _ (call (Value.ref 690) [Value.ref _]) _ _ _)); walk1)))
  refine' rtokN (pcv := []) (pb := pc) (pu := cm) (k19 := tl) (pq := []) ?k1 ?k2 ?k3 ?k4 ?k5 ?k6 hx h1 h2 h3 h4 hr1 hr2 hr3 hsv rfl htk hti hlen  hrt ?k22 ?_ ?_
  case k22 => with_reducible assumption
  case k1 => with_reducible assumption
  case k2 => with_reducible assumption
  case k3 => with_reducible assumption
  case k4 => with_reducible assumption
  case k5 => k_room
  case k6 => k_units
  · intro h' v' sv' ln' tl' tt' pos' t2' pcv' pcn' k' tok st' push t F' N' e1' e2' e3' e4'
    subst e4'
    have hemp := hne _ _ _ _ _ e1'
    have hRV : RV b tok (.str (S tok) t) := by unfold RV; rw [hemp]; simp
    (try dsimp only)
    (repeat' (first | (k_unfold; (try dsimp only)) | ((fail_if_success (with_reducible show wpAny _ _ (exec (Stmt.While _ _ _ _) _) _ _ _)); walk1)))
    clear N
    rename Fr _ _ _ _ => F1
    rename News _ _ _ _ => N1
    refine while_once F1 N1 ?_ (by passes_own)
    intro h tk F2 N2
    clear F1 N1
    (repeat' (first | (k_unfold; (try dsimp only)) | ((fail_if_success (with_reducible show wpAny _ _ (compareOp CmpOp.Eq _ _) _ _ _)); walk1)))
    refine eq_end hRV hEV ?_
    rw [hemp]
    k_steps
    exact hQ h _ sv' ln' tl' tt' pos' t2' pcv' pcn' _ tok st' push t (by assumption) (by assumption) e1' e2' e3' rfl
  · intro h' e t g' sv' ln' tl' tt' pos' t2' pcn' k' tok st' tv S' FG' U' e1' e2' e3'
    (try dsimp only)
    k_steps
    exact hE _ _ _ _ sv' ln' tl' tt' pos' t2' pcn' _ tok st' tv (by assumption) (by assumption) (by assumption) e1' e2' e3' 
end
end Mine

end
end
section
namespace Mine
/-- what is still to be told: the tokens, then the fault for ever. over: what a sign behind a word does to the row; back: what of it is read again -/
inductive Tk5 (over : Option Nat → List (List Nat)) (back : Option Nat → List Nat) (F : List Nat → S5 → List Nat → Int → Option R5) : List Nat → S5 → List Nat → Int → List (List Nat) → List Nat × S5 × Int → Prop where
  | fault {inp : List Nat} {st : S5} {tok tk : List Nat} {ln fl : Int} {fs : S5} : F inp st tok ln = some (.fault tk fs fl) → F [] fs tk fl = some (.fault tk fs fl) → (fs = .esc ∨ ∃ q, fs = .quote q) → tk.length ≤ 40000 → Tk5 over back F inp st tok ln [] (tk, fs, fl)
  | tok {inp rem tok t : List Nat} {st : S5} {ln ln' : Int} {push : Option Nat} {ts : List (List Nat)} {flt : List Nat × S5 × Int} : F inp st tok ln = some (.ok t .white rem ln' push) → t.isEmpty = false → Tk5 over back F (back push ++ rem) .white [] ln' ts flt → Tk5 over back F inp st tok ln (t :: (over push ++ ts)) flt
def RF (b sp pn : Bool) : List Nat → S5 → List Nat → Int → Option R5 :=
  rt5 false b sp (fun c => (if pn then WP b else WC b).cps.toList.contains c) (fun c => if pn then (Str.ofString "();<>|&").cps.toList.contains c else false) (fun c => (Str.ofString "#").cps.toList.contains c)
theorem rf_t {b sp : Bool} : RF b sp true = rt5 false b sp (fun c => (WP b).cps.toList.contains c) (fun c => (Str.ofString "();<>|&").cps.toList.contains c) (fun c => (Str.ofString "#").cps.toList.contains c) := rfl
theorem rf_f {b sp : Bool} : RF b sp false = rt5 false b sp (fun c => (WC b).cps.toList.contains c) (fun _ => false) (fun c => (Str.ofString "#").cps.toList.contains c) := rfl
theorem all_cons {a : Addr} {p : Addr × Obj} {l : List (Addr × Obj)} (h : @Ne Nat p.1 a) (hl : ∀ q ∈ l, q.1 ≠ a) : ∀ q ∈ p :: l, q.1 ≠ a := by
  intro q hq
  rcases List.mem_cons.mp hq with rfl | hq
  · exact h
  · exact hl q hq
def ovP (_ : Option Nat) : List (List Nat) := []
def bkP (o : Option Nat) : List Nat := o.toList
def ovN (o : Option Nat) : List (List Nat) := o.toList.map fun c => [c]
def bkN (_ : Option Nat) : List Nat := []
def ledP5 (P : Params) (x : Str) (kt : IoT) (T : LxT) (k19 : Tok) (b sp : Bool) (ev : Value) (pb fs io iod pc lx dx : Addr) (pk fn : Int) (pv : List Value) (c : LS5) : List (Addr × Obj) :=
  [(io, instObj 587 iod), (iod, ioD P kt x c.pos c.tp), (pc, dqO c.pcv c.pcn), (lx, instObj 722 dx), (dx, lexP P T k19 b sp ev (Str.ofString "#") (WP b) (Str.ofString "();<>|&") pb fs io pc .none c.sv c.ln c.tl c.tok c.tt), (pb, dqO pv pk), (fs, dqO [] fn)]
def ledN5 (P : Params) (x : Str) (kt : IoT) (T : LxT) (b sp : Bool) (ev : Value) (fs io iod pc lx dx : Addr) (fn : Int) (c : LS5) : List (Addr × Obj) :=
  [(io, instObj 587 iod), (iod, ioD P kt x c.pos c.tp), (pc, dqO c.pcv c.pcn), (lx, instObj 722 dx), (dx, lexD P T b sp ev (Str.ofString "#") (WC b) pc fs io .none c.sv c.ln c.tl c.tok c.tt), (fs, dqO [] fn)]
def TI5 (st : S5) (l : List Nat) : Prop := (st = .white ∧ l = []) ∨ st = .esc ∨ ∃ q, st = .quote q
inductive LexP (P : Params) (x : Str) (b sp : Bool) (lx : Addr) (lg : List (Addr × Obj)) (pv : List Value) (toks : List (List Nat)) (flt : List Nat × S5 × Int) : Prop where
  | mk (kt : IoT) (T : LxT) (k19 : Tok) (ev : Value) (pb : Addr) (fs : Addr) (io : Addr) (iod : Addr) (pc : Addr) (dx : Addr) (pk : Int) (fn : Int) (c : LS5) (st : S5) (pq : List Nat) (l : List Nat)
    (_ : lg = ledP5 P x kt T k19 b sp ev pb fs io iod pc lx dx pk fn pv c) (_ : EV b ev) (_ : @LT.lt Nat _ dx lx) (_ : @LT.lt Nat _ lx iod) (_ : @LT.lt Nat _ iod io) (_ : @LT.lt Nat _ io pb) (_ : @LT.lt Nat _ pb fs) (_ : @LT.lt Nat _ fs pc) (_ : SV5 st c.sv) (_ : PC c.pcv pq) (_ : c.tok = S l) (_ : l.length ≤ 40000) (_ : TI5 st l) (_ : Tk5 ovP bkP (RF b sp true) (pq ++ x.cps.toList.drop c.pos) st l c.ln toks flt)
inductive LexN (P : Params) (x : Str) (b sp : Bool) (lx : Addr) (lg : List (Addr × Obj)) (pv : List Value) (toks : List (List Nat)) (flt : List Nat × S5 × Int) : Prop where
  | mk (kt : IoT) (T : LxT) (ev : Value) (fs : Addr) (io : Addr) (iod : Addr) (pc : Addr) (dx : Addr) (fn : Int) (c : LS5) (st : S5) (ov : List Nat) (ts : List (List Nat)) (l : List Nat)
    (_ : lg = ledN5 P x kt T b sp ev fs io iod pc lx dx fn c) (_ : EV b ev) (_ : @LT.lt Nat _ dx lx) (_ : @LT.lt Nat _ lx iod) (_ : @LT.lt Nat _ iod io) (_ : @LT.lt Nat _ io pc) (_ : @LT.lt Nat _ pc fs) (_ : SV5 st c.sv) (_ : (∃ pq, PC pq ov ∧ c.pcv = pv ++ pq)) (_ : toks = ov.map (fun c => [c]) ++ ts) (_ : c.tok = S l) (_ : l.length ≤ 40000) (_ : TI5 st l) (_ : Tk5 ovN bkN (RF b sp false) (x.cps.toList.drop c.pos) st l c.ln ts flt)
def Lex5 (P : Params) (x : Str) (pn b sp : Bool) (lx : Addr) (lg : List (Addr × Obj)) (pv : List Value) (toks : List (List Nat)) (flt : List Nat × S5 × Int) : Prop :=
  if pn then LexP P x b sp lx lg pv toks flt else LexN P x b sp lx lg pv toks flt
def Ap5 (lg rest : List (Addr × Obj)) : Prop := ∀ q ∈ lg, ∀ p ∈ rest, p.1 ≠ q.1
def Same5 (lg lg' : List (Addr × Obj)) : Prop := lg'.map (·.1) = lg.map (·.1)
theorem Ap5.same {lg lg' rest : List (Addr × Obj)} (h : Ap5 lg rest) (e : Same5 lg lg') : Ap5 lg' rest := by
  intro q hq p hp
  have : q.1 ∈ lg'.map (·.1) := List.mem_map.mpr ⟨q, hq, rfl⟩
  rw [e] at this
  obtain ⟨q', hq', e'⟩ := List.mem_map.mp this
  rw [← e']
  exact h q' hq' p hp
theorem prmP1 {g h : Heap} {L : Addr} {a b c d e f k : Addr × Obj} {R : List (Addr × Obj)} (N : News g L h (a :: b :: c :: d :: e :: f :: k :: R)) : News g L h (f :: d :: e :: k :: a :: b :: c :: R) := by
  intro p hp
  refine N p ?_
  (repeat' (rcases List.mem_cons.mp hp with rfl | hp))
  all_goals (repeat (first | exact List.Mem.head _ | exact hp | refine List.Mem.tail _ ?_))
theorem prmP2 {g h : Heap} {L : Addr} {a b c d e f k : Addr × Obj} {R : List (Addr × Obj)} (N : News g L h (f :: d :: e :: k :: a :: b :: c :: R)) : News g L h (a :: b :: c :: d :: e :: f :: k :: R) := by
  intro p hp
  refine N p ?_
  (repeat' (rcases List.mem_cons.mp hp with rfl | hp))
  all_goals (repeat (first | exact List.Mem.head _ | exact hp | refine List.Mem.tail _ ?_))
theorem prmN1 {g h : Heap} {L : Addr} {a b c d e f : Addr × Obj} {R : List (Addr × Obj)} (N : News g L h (a :: b :: c :: d :: e :: f :: R)) : News g L h (c :: d :: e :: f :: a :: b :: R) := by
  intro p hp
  refine N p ?_
  (repeat' (rcases List.mem_cons.mp hp with rfl | hp))
  all_goals (repeat (first | exact List.Mem.head _ | exact hp | refine List.Mem.tail _ ?_))
theorem prmN2 {g h : Heap} {L : Addr} {a b c d e f : Addr × Obj} {R : List (Addr × Obj)} (N : News g L h (c :: d :: e :: f :: a :: b :: R)) : News g L h (a :: b :: c :: d :: e :: f :: R) := by
  intro p hp
  refine N p ?_
  (repeat' (rcases List.mem_cons.mp hp with rfl | hp))
  all_goals (repeat (first | exact List.Mem.head _ | exact hp | refine List.Mem.tail _ ?_))
theorem lenP {l pq : List Nat} {x : Str} {pos : Nat} (h1 : l.length ≤ 40000) (h2 : pq.length ≤ 1) (h3 : x.length ≤ 40000) : l.length + (pq ++ x.cps.toList.drop pos).length ≤ 100000 := by
  have : (x.cps.toList.drop pos).length ≤ x.length := by simp [Str.length]
  simp only [List.length_append]
  omega
theorem lenN {l : List Nat} {x : Str} {pos : Nat} (h1 : l.length ≤ 40000) (h3 : x.length ≤ 40000) : l.length + (x.cps.toList.drop pos).length ≤ 100000 := by
  have : (x.cps.toList.drop pos).length ≤ x.length := by simp [Str.length]
  omega
theorem ti5P {b : Bool} {st : S5} {l : List Nat} (h : TI5 st l) : TIP b st l false := by
  rcases h with ⟨rfl, rfl⟩ | rfl | ⟨q, rfl⟩
  · exact ⟨rfl, fun _ => rfl⟩
  · trivial
  · trivial
theorem ti5N {b : Bool} {st : S5} {l : List Nat} (h : TI5 st l) : TIN b st l false := by
  rcases h with ⟨rfl, rfl⟩ | rfl | ⟨q, rfl⟩
  · exact ⟨rfl, fun _ => rfl⟩
  · trivial
  · trivial
theorem pc_len {v : List Value} {cs : List Nat} (h : PC v cs) : cs.length ≤ 1 ∧ v.length = cs.length := by
  rcases h with ⟨rfl, rfl⟩ | ⟨c, t, rfl, rfl⟩ <;> simp
theorem pu_ok : (Str.ofString "();<>|&").cps.toList.isEmpty = false ∧ (Str.ofString "();<>|&").length ≤ 100000 := by decide +kernel
section
variable {w : World} {A₀ : Around} {base h₀ : Heap} {outer : List Env} {L : Addr} {m mg mb : Str → Option Value} {loose : List Str} {mean : ExcName → Option Value} {s : Shared} {Q E : Value → Shared → Prop} {p : Program}
  {hdl : Option Value} {d u : Nat} {gs : Option (List Code)} {rest : List (Addr × Obj)} {ns : List (Str × NameKind)} {ig ic : Bool} {mo : List (Str × Const)} {gl bi : Addr} {cs : List (Str × Addr)} {qn : Str} {fo : Option Addr} {cdv : Value}
theorem lexP_tok {x : Str} {b sp : Bool} {lx : Addr} {lg : List (Addr × Obj)} {t : List Nat} {ts : List (List Nat)} {flt : List Nat × S5 × Int}
  (B : Below A₀ base outer h₀) (F : Fr h₀ L s.heap m) (X : (hd.heap_1 w.params).In h₀) (T : Top p loose mean mg mb h₀) (hdp : d < 800) (hun : u < 8000)
  (hx : x.length ≤ 40000) (hL : LexP w.params x b sp lx lg [] (t :: ts) flt) (hap : Ap5 lg rest) (N : News h₀ L s.heap (lg ++ rest))
  (hQ : ∀ h' lg' tt k, Fr h₀ L h' m → News h₀ L h' (lg' ++ rest) → LexP w.params x b sp lx lg' [] ts flt → Same5 lg lg' → Q (.str (S t) tt) { s with heap := h', toks := k })
  : wpAny (model prog w) (ar none d (fenv ns ig ic mo gl cs qn fo cdv bi L :: outer) gs u) (call (.ref 683) [.ref lx]) Q E s := by
  obtain ⟨kt, T1, k19, ev, pb, fs, io, iod, pc, dx, pk, fn, ⟨sv, ln, tl, tok, tt, pos, tp, pcv, pcn, q⟩, st, pq, l, rfl, hev, g1, g2, g3, g4, g5, g6, hsv, hpc, htk, hll, hti, hT⟩ := hL
  dsimp only at hsv hpc htk hT
  generalize htt : t :: ts = tts at hT
  cases hT with
  | fault a b c e => cases htt
  | tok hrt hne hT2 =>
  injection htt with e1 e2
  subst e1
  have e2 : ts = _ := e2
  have hd := pc_len hpc
  refine gtP (pq := pq) (k19 := k19) B F X T hdp hun (lz hx rfl) g1 g2 g3 (Nat.lt_trans g4 (Nat.lt_trans g5 g6)) ?_ ?_ ?_ hsv hpc htk (ti5P hti) ?_ pu_ok.1 pu_ok.2 (rf_t ▸ hrt) ?_ hev N ?_ ?_
  · exact all_cons (Nat.ne_of_gt (Nat.lt_trans g3 g4)) (all_cons (Nat.ne_of_gt (Nat.lt_trans g3 (Nat.lt_trans g4 g5))) (hap (iod, _) (.tail _ (.head _))))
  · exact all_cons (Nat.ne_of_gt (Nat.lt_trans g1 (Nat.lt_trans g2 (Nat.lt_trans g3 g4)))) (all_cons (Nat.ne_of_gt (Nat.lt_trans g1 (Nat.lt_trans g2 (Nat.lt_trans g3 (Nat.lt_trans g4 g5))))) (hap (dx, _) (.tail _ (.tail _ (.tail _ (.tail _ (.head _)))))))
  · exact all_cons (Nat.ne_of_lt (Nat.lt_trans g5 g6)) (all_cons (Nat.ne_of_lt g6) (hap (pc, _) (.tail _ (.tail _ (.head _)))))
  · exact lenP hll hd.1 hx
  · intro tok' st' rem ln' push e
    cases e
    exact hne
  · intro h' v sv' ln' tl' tt' pos' t2' pcv' pcn' k tok' st' push' t' F' N' e1' e2' e3' e4'
    cases e1'
    subst e4'
    refine hQ h' (ledP5 w.params x kt T1 k19 b sp ev pb fs io iod pc lx dx pk fn [] ⟨sv', _, tl', S [], tt', pos', t2', pcv', pcn', false⟩) t' k F' N' ⟨kt, T1, k19, ev, pb, fs, io, iod, pc, dx, pk, fn, ⟨sv', _, tl', S [], tt', pos', t2', pcv', pcn', false⟩, .white, _, [], rfl, hev, g1, g2, g3, g4, g5, g6, e2', e3', rfl, by simp, .inl ⟨rfl, rfl⟩, ?_⟩ rfl
    rw [e2]
    exact hT2
  · intro h' e t' g' sv' ln' tl' tt' pos' t2' pcn' k tok' st' tv S' FG' U' e1'
    cases e1'

end
inductive FltP (P : Params) (x : Str) (b sp : Bool) (lx : Addr) (lg : List (Addr × Obj)) (pv : List Value) (flt : List Nat × S5 × Int) : Prop where
  | mk (kt : IoT) (T : LxT) (k19 : Tok) (ev : Value) (pb : Addr) (fs : Addr) (io : Addr) (iod : Addr) (pc : Addr) (dx : Addr) (pk : Int) (fn : Int) (c : LS5)
    (_ : lg = ledP5 P x kt T k19 b sp ev pb fs io iod pc lx dx pk fn pv c) (_ : EV b ev) (_ : @LT.lt Nat _ dx lx) (_ : @LT.lt Nat _ lx iod) (_ : @LT.lt Nat _ iod io) (_ : @LT.lt Nat _ io pb) (_ : @LT.lt Nat _ pb fs) (_ : @LT.lt Nat _ fs pc) (_ : SV5 flt.2.1 c.sv) (_ : c.pcv = []) (_ : c.tok = S flt.1) (_ : c.ln = flt.2.2) (_ : x.cps.toList.drop c.pos = []) (_ : RF b sp true [] flt.2.1 flt.1 flt.2.2 = some (.fault flt.1 flt.2.1 flt.2.2)) (_ : (flt.2.1 = .esc ∨ ∃ q, flt.2.1 = .quote q)) (_ : flt.1.length ≤ 40000)
inductive FltN (P : Params) (x : Str) (b sp : Bool) (lx : Addr) (lg : List (Addr × Obj)) (pv : List Value) (flt : List Nat × S5 × Int) : Prop where
  | mk (kt : IoT) (T : LxT) (ev : Value) (fs : Addr) (io : Addr) (iod : Addr) (pc : Addr) (dx : Addr) (fn : Int) (c : LS5)
    (_ : lg = ledN5 P x kt T b sp ev fs io iod pc lx dx fn c) (_ : EV b ev) (_ : @LT.lt Nat _ dx lx) (_ : @LT.lt Nat _ lx iod) (_ : @LT.lt Nat _ iod io) (_ : @LT.lt Nat _ io pc) (_ : @LT.lt Nat _ pc fs) (_ : SV5 flt.2.1 c.sv) (_ : c.pcv = pv) (_ : c.tok = S flt.1) (_ : c.ln = flt.2.2) (_ : x.cps.toList.drop c.pos = []) (_ : RF b sp false [] flt.2.1 flt.1 flt.2.2 = some (.fault flt.1 flt.2.1 flt.2.2)) (_ : (flt.2.1 = .esc ∨ ∃ q, flt.2.1 = .quote q)) (_ : flt.1.length ≤ 40000)
theorem FltP.lex {P : Params} {x : Str} {b sp : Bool} {lx : Addr} {lg : List (Addr × Obj)} {flt : List Nat × S5 × Int} (h : FltP P x b sp lx lg [] flt) : LexP P x b sp lx lg [] [] flt := by
  obtain ⟨kt, T1, k19, ev, pb, fs, io, iod, pc, dx, pk, fn, c, e, hev, g1, g2, g3, g4, g5, g6, a1, a2, a3, a4, a5, a6, a7, a8⟩ := h
  refine ⟨kt, T1, k19, ev, pb, fs, io, iod, pc, dx, pk, fn, c, flt.2.1, [], flt.1, e, hev, g1, g2, g3, g4, g5, g6, a1, .inl ⟨a2, rfl⟩, a3, a8, .inr a7, ?_⟩
  rw [a5, a4]
  exact .fault a6 a6 a7 a8
theorem FltN.lex {P : Params} {x : Str} {b sp : Bool} {lx : Addr} {lg : List (Addr × Obj)} {flt : List Nat × S5 × Int} (h : FltN P x b sp lx lg [] flt) : LexN P x b sp lx lg [] [] flt := by
  obtain ⟨kt, T1, ev, fs, io, iod, pc, dx, fn, c, e, hev, g1, g2, g3, g4, g5, a1, a2, a3, a4, a5, a6, a7, a8⟩ := h
  refine ⟨kt, T1, ev, fs, io, iod, pc, dx, fn, c, flt.2.1, [], [], flt.1, e, hev, g1, g2, g3, g4, g5, a1, ⟨[], .inl ⟨rfl, rfl⟩, a2⟩, rfl, a3, a8, .inr a7, ?_⟩
  rw [a5, a4]
  exact .fault a6 a6 a7 a8
theorem msgN_P (st : S5) : msgN st = msgP st := by cases st <;> rfl
section
variable {w : World} {A₀ : Around} {base h₀ : Heap} {outer : List Env} {L : Addr} {m mg mb : Str → Option Value} {loose : List Str} {mean : ExcName → Option Value} {s : Shared} {Q E : Value → Shared → Prop} {p : Program}
  {hdl : Option Value} {d u : Nat} {gs : Option (List Code)} {rest : List (Addr × Obj)} {ns : List (Str × NameKind)} {ig ic : Bool} {mo : List (Str × Const)} {gl bi : Addr} {cs : List (Str × Addr)} {qn : Str} {fo : Option Addr} {cdv : Value}
theorem lexN_tok {x : Str} {b sp : Bool} {lx : Addr} {lg : List (Addr × Obj)} {t : List Nat} {ts : List (List Nat)} {flt : List Nat × S5 × Int}
  (B : Below A₀ base outer h₀) (F : Fr h₀ L s.heap m) (X : (hd.heap_1 w.params).In h₀) (T : Top p loose mean mg mb h₀) (hdp : d < 800) (hun : u < 8000)
  (hx : x.length ≤ 40000) (hL : LexN w.params x b sp lx lg [] (t :: ts) flt) (hap : Ap5 lg rest) (N : News h₀ L s.heap (lg ++ rest))
  (hQ : ∀ h' lg' tt k, Fr h₀ L h' m → News h₀ L h' (lg' ++ rest) → LexN w.params x b sp lx lg' [] ts flt → Same5 lg lg' → Q (.str (S t) tt) { s with heap := h', toks := k })
  : wpAny (model prog w) (ar none d (fenv ns ig ic mo gl cs qn fo cdv bi L :: outer) gs u) (call (.ref 683) [.ref lx]) Q E s := by
  obtain ⟨kt, T1, ev, fs, io, iod, pc, dx, fn, ⟨sv, ln, tl, tok, tt, pos, tp, pcv, pcn, q⟩, st, ov, ts0, l, rfl, hev, g1, g2, g3, g4, g5, hsv, ⟨pq, hpc, hpv⟩, hts, htk, hll, hti, hT⟩ := hL
  dsimp only at hsv hpv htk hT
  rw [List.nil_append] at hpv
  subst hpv
  rcases hpc with ⟨rfl, rfl⟩ | ⟨c, t0, rfl, rfl⟩
  · rw [List.map_nil, List.nil_append] at hts
    subst hts
    generalize htt : t :: ts = tts at hT
    cases hT with
    | fault a b c e => cases htt
    | tok hrt hne hT2 =>
    injection htt with e1 e2
    subst e1
    have e2 : ts = _ := e2
    refine gtN B F X T hdp hun (lz hx rfl) g1 g2 g3 g4 ?_ ?_ ?_ hsv htk (ti5N hti) ?_ (rf_f ▸ hrt) ?_ hev N ?_ ?_
    · exact all_cons (Nat.ne_of_gt (Nat.lt_trans g3 (Nat.lt_trans g4 g5))) (hap (iod, _) (.tail _ (.head _)))
    · exact all_cons (Nat.ne_of_gt (Nat.lt_trans g1 (Nat.lt_trans g2 (Nat.lt_trans g3 (Nat.lt_trans g4 g5))))) (hap (dx, _) (.tail _ (.tail _ (.tail _ (.tail _ (.head _))))))
    · exact all_cons (Nat.ne_of_gt g5) (hap (pc, _) (.tail _ (.tail _ (.head _))))
    · exact lenN hll hx
    · intro tok' st' rem ln' push e
      cases e
      exact hne
    · intro h' v sv' ln' tl' tt' pos' t2' pcv' pcn' k tok' st' push' t' F' N' e1' e2' e3' e4'
      cases e1'
      subst e4'
      refine hQ h' (ledN5 w.params x kt T1 b sp ev fs io iod pc lx dx fn ⟨sv', _, tl', S [], tt', pos', t2', pcv', pcn', false⟩) t' k F' N' ⟨kt, T1, ev, fs, io, iod, pc, dx, fn, ⟨sv', _, tl', S [], tt', pos', t2', pcv', pcn', false⟩, .white, _, _, [], rfl, hev, g1, g2, g3, g4, g5, e2', ⟨_, e3', rfl⟩, e2, rfl, by simp, .inl ⟨rfl, rfl⟩, ?_⟩ rfl
      exact hT2
    · intro h' e t' g' sv' ln' tl' tt' pos' t2' pcn' k tok' st' tv S' FG' U' e1'
      cases e1'
  · injection hts with e1 e2
    subst e1
    have N' : News h₀ L s.heap ((pc, dqO [.str ⟨#[c]⟩ t0] pcn) :: (lx, instObj 722 dx) :: (dx, lexD w.params T1 b sp ev (Str.ofString "#") (WC b) pc fs io .none sv ln tl tok tt) :: ([(fs, dqO [] fn), (io, instObj 587 iod), (iod, ioD w.params kt x pos tp)] ++ rest)) := prmN1 N
    refine get_tok1 B F X T (rm0 hdp rfl) (rm0 hun rfl) g1 (Nat.lt_trans g2 (Nat.lt_trans g3 g4)) ?_ (by simp) N' ?_
    · exact all_cons (Nat.ne_of_gt g5) (all_cons (Nat.ne_of_lt g4) (all_cons (Nat.ne_of_lt (Nat.lt_trans g3 g4)) (hap (pc, _) (.tail _ (.tail _ (.head _))))))
    · intro h' k F' N2
      refine hQ h' (ledN5 w.params x kt T1 b sp ev fs io iod pc lx dx fn ⟨sv, ln, tl, tok, tt, pos, tp, [], pcn + 1, q⟩) t0 k F' ?_ ⟨kt, T1, ev, fs, io, iod, pc, dx, fn, ⟨sv, ln, tl, tok, tt, pos, tp, [], pcn + 1, q⟩, st, [], ts0, l, rfl, hev, g1, g2, g3, g4, g5, hsv, ⟨[], .inl ⟨rfl, rfl⟩, rfl⟩, e2, htk, hll, hti, hT⟩ rfl
      exact prmN2 N2
theorem fltP_gt {x : Str} {b sp : Bool} {lx : Addr} {lg : List (Addr × Obj)} {flt : List Nat × S5 × Int}
  (B : Below A₀ base outer h₀) (F : Fr h₀ L s.heap m) (X : (hd.heap_1 w.params).In h₀) (T : Top p loose mean mg mb h₀) (hdp : d < 800) (hun : u < 8000)
  (hx : x.length ≤ 40000) (hL : LexP w.params x b sp lx lg [] [] flt) (hap : Ap5 lg rest) (N : News h₀ L s.heap (lg ++ rest))
  (hE : ∀ h' e t g' lg' k tv, RaisedS base g' (fenv ns ig ic mo gl cs qn fo cdv bi L :: outer) e (.type "ValueError") t [.str (msgP flt.2.1) tv] (lg' ++ rest) h' → Fr h₀ L g' m → g'.UpToSlots h' → FltP w.params x b sp lx lg' [] flt → Same5 lg lg' → E (.ref e) { s with heap := h', toks := k })
  : wpAny (model prog w) (ar none d (fenv ns ig ic mo gl cs qn fo cdv bi L :: outer) gs u) (call (.ref 683) [.ref lx]) Q E s := by
  obtain ⟨kt, T1, k19, ev, pb, fs, io, iod, pc, dx, pk, fn, ⟨sv, ln, tl, tok, tt, pos, tp, pcv, pcn, q⟩, st, pq, l, rfl, hev, g1, g2, g3, g4, g5, g6, hsv, hpc, htk, hll, hti, hT⟩ := hL
  dsimp only at hsv hpc htk hT
  generalize htt : ([] : List (List Nat)) = tts at hT
  cases hT with
  | tok hrt hne hT2 => cases htt
  | fault hrt hf2 hq hlen =>
  have hd := pc_len hpc
  refine gtP (pq := pq) (k19 := k19) B F X T hdp hun (lz hx rfl) g1 g2 g3 (Nat.lt_trans g4 (Nat.lt_trans g5 g6)) (all_cons (Nat.ne_of_gt (Nat.lt_trans g3 g4)) (all_cons (Nat.ne_of_gt (Nat.lt_trans g3 (Nat.lt_trans g4 g5))) (hap (iod, _) (.tail _ (.head _))))) (all_cons (Nat.ne_of_gt (Nat.lt_trans g1 (Nat.lt_trans g2 (Nat.lt_trans g3 g4)))) (all_cons (Nat.ne_of_gt (Nat.lt_trans g1 (Nat.lt_trans g2 (Nat.lt_trans g3 (Nat.lt_trans g4 g5))))) (hap (dx, _) (.tail _ (.tail _ (.tail _ (.tail _ (.head _)))))))) (all_cons (Nat.ne_of_lt (Nat.lt_trans g5 g6)) (all_cons (Nat.ne_of_lt g6) (hap (pc, _) (.tail _ (.tail _ (.head _)))))) hsv hpc htk (ti5P hti) ?_ pu_ok.1 pu_ok.2 (rf_t ▸ hrt) (fun _ _ _ _ _ e => by cases e) hev N ?_ ?_
  · exact lenP hll hd.1 hx
  · intro h' v sv' ln' tl' tt' pos' t2' pcv' pcn' k tok' st' push' t' F' N' e1'
    cases e1'
  · intro h' e t' g' sv' ln' tl' tt' pos' t2' pcn' k tok' st' tv S' FG' U' e1' e2' e3'
    cases e1'
    exact hE h' e t' g' (ledP5 w.params x kt T1 k19 b sp ev pb fs io iod pc lx dx pk fn [] ⟨sv', _, tl', S _, tt', pos', t2', [], pcn', false⟩) k tv S' FG' U' ⟨kt, T1, k19, ev, pb, fs, io, iod, pc, dx, pk, fn, ⟨sv', _, tl', S _, tt', pos', t2', [], pcn', false⟩, rfl, hev, g1, g2, g3, g4, g5, g6, e2', rfl, rfl, rfl, e3', hf2, hq, hlen⟩ rfl
theorem fltP_rt {x : Str} {b sp : Bool} {lx : Addr} {lg : List (Addr × Obj)} {flt : List Nat × S5 × Int}
  (B : Below A₀ base outer h₀) (F : Fr h₀ L s.heap m) (X : (hd.heap_1 w.params).In h₀) (T : Top p loose mean mg mb h₀) (hdp : d < 800) (hun : u < 8000)
  (hx : x.length ≤ 40000) (hL : LexP w.params x b sp lx lg [] [] flt) (hap : Ap5 lg rest) (N : News h₀ L s.heap (lg ++ rest))
  (hE : ∀ h' e t g' lg' k tv, RaisedS base g' (fenv ns ig ic mo gl cs qn fo cdv bi L :: outer) e (.type "ValueError") t [.str (msgP flt.2.1) tv] (lg' ++ rest) h' → Fr h₀ L g' m → g'.UpToSlots h' → FltP w.params x b sp lx lg' [] flt → Same5 lg lg' → E (.ref e) { s with heap := h', toks := k })
  : wpAny (model prog w) (ar none d (fenv ns ig ic mo gl cs qn fo cdv bi L :: outer) gs u) (call (.ref 690) [.ref lx]) Q E s := by
  obtain ⟨kt, T1, k19, ev, pb, fs, io, iod, pc, dx, pk, fn, ⟨sv, ln, tl, tok, tt, pos, tp, pcv, pcn, q⟩, st, pq, l, rfl, hev, g1, g2, g3, g4, g5, g6, hsv, hpc, htk, hll, hti, hT⟩ := hL
  dsimp only at hsv hpc htk hT
  generalize htt : ([] : List (List Nat)) = tts at hT
  cases hT with
  | tok hrt hne hT2 => cases htt
  | fault hrt hf2 hq hlen =>
  have hd := pc_len hpc
  refine rtokP (pq := pq) (k19 := k19) B F X T (rm0 hdp rfl) (rm0 hun rfl) (lz hx rfl) g1 g2 g3 (Nat.lt_trans g4 (Nat.lt_trans g5 g6)) (all_cons (Nat.ne_of_gt (Nat.lt_trans g3 g4)) (all_cons (Nat.ne_of_gt (Nat.lt_trans g3 (Nat.lt_trans g4 g5))) (hap (iod, _) (.tail _ (.head _))))) (all_cons (Nat.ne_of_gt (Nat.lt_trans g1 (Nat.lt_trans g2 (Nat.lt_trans g3 g4)))) (all_cons (Nat.ne_of_gt (Nat.lt_trans g1 (Nat.lt_trans g2 (Nat.lt_trans g3 (Nat.lt_trans g4 g5))))) (hap (dx, _) (.tail _ (.tail _ (.tail _ (.tail _ (.head _)))))))) (all_cons (Nat.ne_of_lt (Nat.lt_trans g5 g6)) (all_cons (Nat.ne_of_lt g6) (hap (pc, _) (.tail _ (.tail _ (.head _)))))) hsv hpc htk (ti5P hti) ?_ pu_ok.1 pu_ok.2 (rf_t ▸ hrt) N ?_ ?_
  · exact lenP hll hd.1 hx
  · intro h' v sv' ln' tl' tt' pos' t2' pcv' pcn' k tok' st' push' t' F' N' e1'
    cases e1'
  · intro h' e t' g' sv' ln' tl' tt' pos' t2' pcn' k tok' st' tv S' FG' U' e1' e2' e3'
    cases e1'
    exact hE h' e t' g' (ledP5 w.params x kt T1 k19 b sp ev pb fs io iod pc lx dx pk fn [] ⟨sv', _, tl', S _, tt', pos', t2', [], pcn', false⟩) k tv S' FG' U' ⟨kt, T1, k19, ev, pb, fs, io, iod, pc, dx, pk, fn, ⟨sv', _, tl', S _, tt', pos', t2', [], pcn', false⟩, rfl, hev, g1, g2, g3, g4, g5, g6, e2', rfl, rfl, rfl, e3', hf2, hq, hlen⟩ rfl
theorem fltN_gt {x : Str} {b sp : Bool} {lx : Addr} {lg : List (Addr × Obj)} {flt : List Nat × S5 × Int}
  (B : Below A₀ base outer h₀) (F : Fr h₀ L s.heap m) (X : (hd.heap_1 w.params).In h₀) (T : Top p loose mean mg mb h₀) (hdp : d < 800) (hun : u < 8000)
  (hx : x.length ≤ 40000) (hL : LexN w.params x b sp lx lg [] [] flt) (hap : Ap5 lg rest) (N : News h₀ L s.heap (lg ++ rest))
  (hE : ∀ h' e t g' lg' k tv, RaisedS base g' (fenv ns ig ic mo gl cs qn fo cdv bi L :: outer) e (.type "ValueError") t [.str (msgP flt.2.1) tv] (lg' ++ rest) h' → Fr h₀ L g' m → g'.UpToSlots h' → FltN w.params x b sp lx lg' [] flt → Same5 lg lg' → E (.ref e) { s with heap := h', toks := k })
  : wpAny (model prog w) (ar none d (fenv ns ig ic mo gl cs qn fo cdv bi L :: outer) gs u) (call (.ref 683) [.ref lx]) Q E s := by
  obtain ⟨kt, T1, ev, fs, io, iod, pc, dx, fn, ⟨sv, ln, tl, tok, tt, pos, tp, pcv, pcn, q⟩, st, ov, ts0, l, rfl, hev, g1, g2, g3, g4, g5, hsv, ⟨pq, hpc, hpv⟩, hts, htk, hll, hti, hT⟩ := hL
  dsimp only at hsv hpv htk hT
  have hov : ov = [] ∧ ts0 = [] := by
    cases ov with
    | nil => exact ⟨rfl, by simpa using hts.symm⟩
    | cons c r => simp at hts
  obtain ⟨rfl, rfl⟩ := hov
  rw [List.nil_append] at hpv
  subst hpv
  have hpv : pcv = [] := by
    rcases hpc with ⟨h, _⟩ | ⟨_, _, _, h⟩
    · exact h
    · cases h
  subst hpv
  generalize htt : ([] : List (List Nat)) = tts at hT
  cases hT with
  | tok hrt hne hT2 => cases htt
  | fault hrt hf2 hq hlen =>
  refine gtN  B F X T hdp hun (lz hx rfl) g1 g2 g3 g4 (all_cons (Nat.ne_of_gt (Nat.lt_trans g3 (Nat.lt_trans g4 g5))) (hap (iod, _) (.tail _ (.head _)))) (all_cons (Nat.ne_of_gt (Nat.lt_trans g1 (Nat.lt_trans g2 (Nat.lt_trans g3 (Nat.lt_trans g4 g5))))) (hap (dx, _) (.tail _ (.tail _ (.tail _ (.tail _ (.head _))))))) (all_cons (Nat.ne_of_gt g5) (hap (pc, _) (.tail _ (.tail _ (.head _))))) hsv htk (ti5N hti) ?_ (rf_f ▸ hrt) (fun _ _ _ _ _ e => by cases e) hev N ?_ ?_
  · exact lenN hll hx
  · intro h' v sv' ln' tl' tt' pos' t2' pcv' pcn' k tok' st' push' t' F' N' e1'
    cases e1'
  · intro h' e t' g' sv' ln' tl' tt' pos' t2' pcn' k tok' st' tv S' FG' U' e1' e2' e3'
    cases e1'
    rw [msgN_P] at S'
    exact hE h' e t' g' (ledN5 w.params x kt T1 b sp ev fs io iod pc lx dx fn ⟨sv', _, tl', S _, tt', pos', t2', [], pcn', false⟩) k tv S' FG' U' ⟨kt, T1, ev, fs, io, iod, pc, dx, fn, ⟨sv', _, tl', S _, tt', pos', t2', [], pcn', false⟩, rfl, hev, g1, g2, g3, g4, g5, e2', rfl, rfl, rfl, e3', hf2, hq, hlen⟩ rfl
theorem fltN_rt {x : Str} {b sp : Bool} {lx : Addr} {lg : List (Addr × Obj)} {flt : List Nat × S5 × Int}
  (B : Below A₀ base outer h₀) (F : Fr h₀ L s.heap m) (X : (hd.heap_1 w.params).In h₀) (T : Top p loose mean mg mb h₀) (hdp : d < 800) (hun : u < 8000)
  (hx : x.length ≤ 40000) (hL : LexN w.params x b sp lx lg [] [] flt) (hap : Ap5 lg rest) (N : News h₀ L s.heap (lg ++ rest))
  (hE : ∀ h' e t g' lg' k tv, RaisedS base g' (fenv ns ig ic mo gl cs qn fo cdv bi L :: outer) e (.type "ValueError") t [.str (msgP flt.2.1) tv] (lg' ++ rest) h' → Fr h₀ L g' m → g'.UpToSlots h' → FltN w.params x b sp lx lg' [] flt → Same5 lg lg' → E (.ref e) { s with heap := h', toks := k })
  : wpAny (model prog w) (ar none d (fenv ns ig ic mo gl cs qn fo cdv bi L :: outer) gs u) (call (.ref 690) [.ref lx]) Q E s := by
  obtain ⟨kt, T1, ev, fs, io, iod, pc, dx, fn, ⟨sv, ln, tl, tok, tt, pos, tp, pcv, pcn, q⟩, st, ov, ts0, l, rfl, hev, g1, g2, g3, g4, g5, hsv, ⟨pq, hpc, hpv⟩, hts, htk, hll, hti, hT⟩ := hL
  dsimp only at hsv hpv htk hT
  have hov : ov = [] ∧ ts0 = [] := by
    cases ov with
    | nil => exact ⟨rfl, by simpa using hts.symm⟩
    | cons c r => simp at hts
  obtain ⟨rfl, rfl⟩ := hov
  rw [List.nil_append] at hpv
  subst hpv
  have hpv : pcv = [] := by
    rcases hpc with ⟨h, _⟩ | ⟨_, _, _, h⟩
    · exact h
    · cases h
  subst hpv
  generalize htt : ([] : List (List Nat)) = tts at hT
  cases hT with
  | tok hrt hne hT2 => cases htt
  | fault hrt hf2 hq hlen =>
  refine rtokN (pcv := []) (pb := pc) (pu := x) (k19 := tl) (pq := []) B F X T (rm0 hdp rfl) (rm0 hun rfl) (lz hx rfl) g1 g2 g3 g4 (all_cons (Nat.ne_of_gt (Nat.lt_trans g3 (Nat.lt_trans g4 g5))) (hap (iod, _) (.tail _ (.head _)))) (all_cons (Nat.ne_of_gt (Nat.lt_trans g1 (Nat.lt_trans g2 (Nat.lt_trans g3 (Nat.lt_trans g4 g5))))) (hap (dx, _) (.tail _ (.tail _ (.tail _ (.tail _ (.head _))))))) (all_cons (Nat.ne_of_gt g5) (hap (pc, _) (.tail _ (.tail _ (.head _))))) hsv rfl htk (ti5N hti) ?_ (rf_f ▸ hrt) N ?_ ?_
  · exact lenN hll hx
  · intro h' v sv' ln' tl' tt' pos' t2' pcv' pcn' k tok' st' push' t' F' N' e1'
    cases e1'
  · intro h' e t' g' sv' ln' tl' tt' pos' t2' pcn' k tok' st' tv S' FG' U' e1' e2' e3'
    cases e1'
    rw [msgN_P] at S'
    exact hE h' e t' g' (ledN5 w.params x kt T1 b sp ev fs io iod pc lx dx fn ⟨sv', _, tl', S _, tt', pos', t2', [], pcn', false⟩) k tv S' FG' U' ⟨kt, T1, ev, fs, io, iod, pc, dx, fn, ⟨sv', _, tl', S _, tt', pos', t2', [], pcn', false⟩, rfl, hev, g1, g2, g3, g4, g5, e2', rfl, rfl, rfl, e3', hf2, hq, hlen⟩ rfl
theorem fltP_push {x : Str} {b sp : Bool} {lx : Addr} {lg : List (Addr × Obj)} {v : Value} {flt : List Nat × S5 × Int}
  (B : Below A₀ base outer h₀) (F : Fr h₀ L s.heap m) (X : (hd.heap_1 w.params).In h₀) (T : Top p loose mean mg mb h₀) (hdp : d < 800) (hun : u < 8000)
  (hL : FltP w.params x b sp lx lg [] flt) (hap : Ap5 lg rest) (N : News h₀ L s.heap (lg ++ rest))
  (hQ : ∀ h' lg' k, Fr h₀ L h' m → News h₀ L h' (lg' ++ rest) → FltP w.params x b sp lx lg' [v] flt → Same5 lg lg' → Q .none { s with heap := h', toks := k })
  : wpAny (model prog w) (ar hdl d (fenv ns ig ic mo gl cs qn fo cdv bi L :: outer) gs u) (call (.ref 661) [.ref lx, v]) Q E s := by
  obtain ⟨kt, T1, k19, ev, pb, fs, io, iod, pc, dx, pk, fn, ⟨sv, ln, tl, tok, tt, pos, tp, pcv, pcn, q⟩, rfl, hev, g1, g2, g3, g4, g5, g6, a1, a2, a3, a4, a5, a6, a7, a8⟩ := hL
  dsimp only at a1 a2 a3 a4 a5
  have N' : News h₀ L s.heap ((pb, dqO [] pk) :: (lx, instObj 722 dx) :: (dx, lexP w.params T1 k19 b sp ev (Str.ofString "#") (WP b) (Str.ofString "();<>|&") pb fs io pc .none sv ln tl tok tt) :: ([(fs, dqO [] fn), (io, instObj 587 iod), (iod, ioD w.params kt x pos tp), (pc, dqO pcv pcn)] ++ rest)) := prmP1 N
  refine push_tokP B F X T (rm0 hdp rfl) (rm0 hun rfl) g1 (Nat.lt_trans g2 (Nat.lt_trans g3 g4)) (all_cons (Nat.ne_of_gt g5) (all_cons (Nat.ne_of_lt g4) (all_cons (Nat.ne_of_lt (Nat.lt_trans g3 g4)) (all_cons (Nat.ne_of_gt (Nat.lt_trans g5 g6)) (hap (pb, _) (.tail _ (.tail _ (.tail _ (.tail _ (.tail _ (.head _))))))))))) (by simp) N' ?_
  intro h' k F' N2
  refine hQ h' (ledP5 w.params x kt T1 k19 b sp ev pb fs io iod pc lx dx (pk + 1) fn [v] ⟨sv, ln, tl, tok, tt, pos, tp, pcv, pcn, q⟩) k F' ?_ ⟨kt, T1, k19, ev, pb, fs, io, iod, pc, dx, pk + 1, fn, ⟨sv, ln, tl, tok, tt, pos, tp, pcv, pcn, q⟩, rfl, hev, g1, g2, g3, g4, g5, g6, a1, a2, a3, a4, a5, a6, a7, a8⟩ rfl
  exact prmP2 N2
theorem fltP_pop {x : Str} {b sp : Bool} {lx : Addr} {lg : List (Addr × Obj)} {v : Value} {flt : List Nat × S5 × Int}
  (B : Below A₀ base outer h₀) (F : Fr h₀ L s.heap m) (X : (hd.heap_1 w.params).In h₀) (T : Top p loose mean mg mb h₀) (hdp : d < 800) (hun : u < 8000)
  (hL : FltP w.params x b sp lx lg [v] flt) (hap : Ap5 lg rest) (N : News h₀ L s.heap (lg ++ rest))
  (hQ : ∀ h' lg' k, Fr h₀ L h' m → News h₀ L h' (lg' ++ rest) → FltP w.params x b sp lx lg' [] flt → Same5 lg lg' → Q v { s with heap := h', toks := k })
  : wpAny (model prog w) (ar hdl d (fenv ns ig ic mo gl cs qn fo cdv bi L :: outer) gs u) (call (.ref 683) [.ref lx]) Q E s := by
  obtain ⟨kt, T1, k19, ev, pb, fs, io, iod, pc, dx, pk, fn, ⟨sv, ln, tl, tok, tt, pos, tp, pcv, pcn, q⟩, rfl, hev, g1, g2, g3, g4, g5, g6, a1, a2, a3, a4, a5, a6, a7, a8⟩ := hL
  dsimp only at a1 a2 a3 a4 a5
  have N' : News h₀ L s.heap ((pb, dqO [v] pk) :: (lx, instObj 722 dx) :: (dx, lexP w.params T1 k19 b sp ev (Str.ofString "#") (WP b) (Str.ofString "();<>|&") pb fs io pc .none sv ln tl tok tt) :: ([(fs, dqO [] fn), (io, instObj 587 iod), (iod, ioD w.params kt x pos tp), (pc, dqO pcv pcn)] ++ rest)) := prmP1 N
  refine get_tok1P B F X T (rm0 hdp rfl) (rm0 hun rfl) g1 (Nat.lt_trans g2 (Nat.lt_trans g3 g4)) (all_cons (Nat.ne_of_gt g5) (all_cons (Nat.ne_of_lt g4) (all_cons (Nat.ne_of_lt (Nat.lt_trans g3 g4)) (all_cons (Nat.ne_of_gt (Nat.lt_trans g5 g6)) (hap (pb, _) (.tail _ (.tail _ (.tail _ (.tail _ (.tail _ (.head _))))))))))) (by simp) N' ?_
  intro h' k F' N2
  refine hQ h' (ledP5 w.params x kt T1 k19 b sp ev pb fs io iod pc lx dx (pk + 1) fn [] ⟨sv, ln, tl, tok, tt, pos, tp, pcv, pcn, q⟩) k F' ?_ ⟨kt, T1, k19, ev, pb, fs, io, iod, pc, dx, pk + 1, fn, ⟨sv, ln, tl, tok, tt, pos, tp, pcv, pcn, q⟩, rfl, hev, g1, g2, g3, g4, g5, g6, a1, a2, a3, a4, a5, a6, a7, a8⟩ rfl
  exact prmP2 N2
theorem fltN_push {x : Str} {b sp : Bool} {lx : Addr} {lg : List (Addr × Obj)} {v : Value} {flt : List Nat × S5 × Int}
  (B : Below A₀ base outer h₀) (F : Fr h₀ L s.heap m) (X : (hd.heap_1 w.params).In h₀) (T : Top p loose mean mg mb h₀) (hdp : d < 800) (hun : u < 8000)
  (hL : FltN w.params x b sp lx lg [] flt) (hap : Ap5 lg rest) (N : News h₀ L s.heap (lg ++ rest))
  (hQ : ∀ h' lg' k, Fr h₀ L h' m → News h₀ L h' (lg' ++ rest) → FltN w.params x b sp lx lg' [v] flt → Same5 lg lg' → Q .none { s with heap := h', toks := k })
  : wpAny (model prog w) (ar hdl d (fenv ns ig ic mo gl cs qn fo cdv bi L :: outer) gs u) (call (.ref 661) [.ref lx, v]) Q E s := by
  obtain ⟨kt, T1, ev, fs, io, iod, pc, dx, fn, ⟨sv, ln, tl, tok, tt, pos, tp, pcv, pcn, q⟩, rfl, hev, g1, g2, g3, g4, g5, a1, a2, a3, a4, a5, a6, a7, a8⟩ := hL
  dsimp only at a1 a2 a3 a4 a5
  subst a2
  have N' : News h₀ L s.heap ((pc, dqO [] pcn) :: (lx, instObj 722 dx) :: (dx, lexD w.params T1 b sp ev (Str.ofString "#") (WC b) pc fs io .none sv ln tl tok tt) :: ([(fs, dqO [] fn), (io, instObj 587 iod), (iod, ioD w.params kt x pos tp)] ++ rest)) := prmN1 N
  refine push_tok B F X T (rm0 hdp rfl) (rm0 hun rfl) g1 (Nat.lt_trans g2 (Nat.lt_trans g3 g4)) (all_cons (Nat.ne_of_gt g5) (all_cons (Nat.ne_of_lt g4) (all_cons (Nat.ne_of_lt (Nat.lt_trans g3 g4)) (hap (pc, _) (.tail _ (.tail _ (.head _))))))) (by simp) N' ?_
  intro h' k F' N2
  refine hQ h' (ledN5 w.params x kt T1 b sp ev fs io iod pc lx dx fn ⟨sv, ln, tl, tok, tt, pos, tp, [v], pcn + 1, q⟩) k F' ?_ ⟨kt, T1, ev, fs, io, iod, pc, dx, fn, ⟨sv, ln, tl, tok, tt, pos, tp, [v], pcn + 1, q⟩, rfl, hev, g1, g2, g3, g4, g5, a1, rfl, a3, a4, a5, a6, a7, a8⟩ rfl
  exact prmN2 N2
theorem fltN_pop {x : Str} {b sp : Bool} {lx : Addr} {lg : List (Addr × Obj)} {v : Value} {flt : List Nat × S5 × Int}
  (B : Below A₀ base outer h₀) (F : Fr h₀ L s.heap m) (X : (hd.heap_1 w.params).In h₀) (T : Top p loose mean mg mb h₀) (hdp : d < 800) (hun : u < 8000)
  (hL : FltN w.params x b sp lx lg [v] flt) (hap : Ap5 lg rest) (N : News h₀ L s.heap (lg ++ rest))
  (hQ : ∀ h' lg' k, Fr h₀ L h' m → News h₀ L h' (lg' ++ rest) → FltN w.params x b sp lx lg' [] flt → Same5 lg lg' → Q v { s with heap := h', toks := k })
  : wpAny (model prog w) (ar hdl d (fenv ns ig ic mo gl cs qn fo cdv bi L :: outer) gs u) (call (.ref 683) [.ref lx]) Q E s := by
  obtain ⟨kt, T1, ev, fs, io, iod, pc, dx, fn, ⟨sv, ln, tl, tok, tt, pos, tp, pcv, pcn, q⟩, rfl, hev, g1, g2, g3, g4, g5, a1, a2, a3, a4, a5, a6, a7, a8⟩ := hL
  dsimp only at a1 a2 a3 a4 a5
  subst a2
  have N' : News h₀ L s.heap ((pc, dqO [v] pcn) :: (lx, instObj 722 dx) :: (dx, lexD w.params T1 b sp ev (Str.ofString "#") (WC b) pc fs io .none sv ln tl tok tt) :: ([(fs, dqO [] fn), (io, instObj 587 iod), (iod, ioD w.params kt x pos tp)] ++ rest)) := prmN1 N
  refine get_tok1 B F X T (rm0 hdp rfl) (rm0 hun rfl) g1 (Nat.lt_trans g2 (Nat.lt_trans g3 g4)) (all_cons (Nat.ne_of_gt g5) (all_cons (Nat.ne_of_lt g4) (all_cons (Nat.ne_of_lt (Nat.lt_trans g3 g4)) (hap (pc, _) (.tail _ (.tail _ (.head _))))))) (by simp) N' ?_
  intro h' k F' N2
  refine hQ h' (ledN5 w.params x kt T1 b sp ev fs io iod pc lx dx fn ⟨sv, ln, tl, tok, tt, pos, tp, [], pcn + 1, q⟩) k F' ?_ ⟨kt, T1, ev, fs, io, iod, pc, dx, fn, ⟨sv, ln, tl, tok, tt, pos, tp, [], pcn + 1, q⟩, rfl, hev, g1, g2, g3, g4, g5, a1, rfl, a3, a4, a5, a6, a7, a8⟩ rfl
  exact prmN2 N2
end
end Mine

end
section
namespace Mine
/-! the plain law: the tokens ahead, then the fault -/
def Wf (b pn : Bool) (c : Nat) : Bool := (if pn then WP b else WC b).cps.toList.contains c
def Uf (pn : Bool) (c : Nat) : Bool := if pn then (Str.ofString "();<>|&").cps.toList.contains c else false
def Cf (c : Nat) : Bool := (Str.ofString "#").cps.toList.contains c
theorem rf_eq (b sp pn : Bool) : RF b sp pn = rt5 false b sp (Wf b pn) (Uf pn) Cf := rfl
theorem wf_w (b pn : Bool) : Wf b pn 97 = true ∧ Wf b pn 98 = true ∧ Wf b pn 124 = false ∧ Wf b pn 39 = false ∧ Wf b pn 34 = false := by
  cases b <;> cases pn <;> decide +kernel
theorem uf_w (pn : Bool) : Uf pn 97 = false ∧ Uf pn 98 = false ∧ Uf pn 124 = pn ∧ Uf pn 39 = false ∧ Uf pn 34 = false := by
  cases pn <;> decide +kernel
theorem cf_w : (Cf 97 = false ∧ Cf 98 = false ∧ Cf 124 = false ∧ Cf 39 = false ∧ Cf 34 = false ∧ Cf 92 = false) ∧ (isWs 97 = false ∧ isWs 98 = false ∧ isWs 124 = false ∧ isWs 39 = false ∧ isWs 34 = false ∧ isWs 92 = false ∧ isWs 32 = true ∧ isWs 10 = true) ∧
  (isE 97 = false ∧ isE 98 = false ∧ isE 124 = false ∧ isE 39 = false ∧ isE 34 = false ∧ isE 92 = true) ∧ (isQ 97 = false ∧ isQ 98 = false ∧ isQ 124 = false ∧ isQ 39 = true ∧ isQ 34 = true ∧ isQ 92 = false) ∧ (isD 39 = false ∧ isD 34 = true) := by
  decide +kernel
def isB (c : Nat) : Prop := c = 97 ∨ c = 98
def isM (c : Nat) : Prop := c = 39 ∨ c = 34
section
variable {b sp pn : Bool} {r tok : List Nat} {ln : Int} {c : Nat}
theorem lnp_b (h : isB c) : lnp c ln = ln := by rcases h with rfl | rfl <;> rfl
theorem lnp_m (h : isM c) : lnp c ln = ln := by rcases h with rfl | rfl <;> rfl
theorem rf_ws (h : c = 32 ∨ c = 10) : RF b sp pn (c :: r) .white tok ln = RF b sp pn r .white tok (lnp c ln) := by
  rw [rf_eq, re_w]
  rcases h with rfl | rfl <;> simp only [cf_w, if_true]
theorem rf_wb (h : isB c) : RF b sp pn (c :: r) .white tok ln = RF b sp pn r .word [c] ln := by
  rw [rf_eq, re_w, lnp_b h]
  rcases h with rfl | rfl <;> simp only [cf_w, wf_w, if_true, if_false, Bool.and_false, Bool.false_eq_true]
theorem rf_bar : RF b sp pn (124 :: r) .white tok ln = if pn then RF b sp pn r .punct [124] ln else if sp then RF b sp pn r .word [124] ln else some (.ok [124] .white r ln none) := by
  rw [rf_eq, re_w]
  have : lnp 124 ln = ln := rfl
  simp only [cf_w, wf_w, uf_w, this, if_true, if_false, Bool.and_false, Bool.false_eq_true]
theorem rf_wm (h : isM c) : RF b sp pn (c :: r) .white tok ln = RF b sp pn r (.quote c) (if b then tok else [c]) ln := by
  rw [rf_eq, re_w, lnp_m h]
  rcases h with rfl | rfl <;> simp only [cf_w, wf_w, uf_w, if_true, if_false, Bool.and_false, Bool.false_eq_true]
theorem rf_ow (h : c = 32 ∨ c = 10) : RF b sp pn (c :: r) .word tok ln = some (.ok tok .white r (lnp c ln) none) := by
  rw [rf_eq, re_o]
  rcases h with rfl | rfl <;> simp only [cf_w, if_true]
theorem rf_ob (h : isB c) : RF b sp pn (c :: r) .word tok ln = RF b sp pn r .word (tok ++ [c]) ln := by
  rw [rf_eq, re_o, lnp_b h]
  rcases h with rfl | rfl <;> simp only [cf_w, wf_w, if_true, if_false, Bool.and_false, Bool.false_eq_true, Bool.true_or]
theorem rf_obar : RF b sp pn (124 :: r) .word tok ln = if sp && !pn then RF b sp pn r .word (tok ++ [124]) ln else some (.ok tok .white r ln (some 124)) := by
  rw [rf_eq, re_o]
  have : lnp 124 ln = ln := rfl
  simp only [cf_w, wf_w, uf_w, this, if_true, if_false, Bool.and_false, Bool.false_eq_true, Bool.false_or]
theorem rf_om (h : isM c) : RF true sp pn (c :: r) .word tok ln = RF true sp pn r (.quote c) tok ln := by
  rw [rf_eq, re_o, lnp_m h]
  rcases h with rfl | rfl <;> simp only [cf_w, wf_w, uf_w, if_true, if_false, Bool.and_false, Bool.and_true, Bool.false_eq_true]
theorem rf_pw (h : c = 32 ∨ c = 10) : RF b sp pn (c :: r) .punct tok ln = some (.ok tok .white r (lnp c ln) none) := by
  rw [rf_eq, re_p]
  rcases h with rfl | rfl <;> simp only [cf_w, if_true]
theorem rf_pbar : RF b sp true (124 :: r) .punct tok ln = RF b sp true r .punct (tok ++ [124]) ln := by
  rw [rf_eq, re_p]
  have : lnp 124 ln = ln := rfl
  simp only [cf_w, wf_w, uf_w, this, if_true, if_false, Bool.and_false, Bool.false_eq_true, Bool.false_or]
theorem rf_pb (h : isB c) : RF b sp pn (c :: r) .punct tok ln = some (.ok tok .white r ln (some c)) := by
  rw [rf_eq, re_p, lnp_b h]
  rcases h with rfl | rfl <;> simp only [cf_w, uf_w, if_true, if_false, Bool.and_false, Bool.false_eq_true]
theorem tk_step {ov bk F} {inp inp' tok tok' : List Nat} {st st' : S5} {ln ln' : Int} {ts : List (List Nat)} {flt : List Nat × S5 × Int} (h : F inp st tok ln = F inp' st' tok' ln') (H : Tk5 ov bk F inp' st' tok' ln' ts flt) : Tk5 ov bk F inp st tok ln ts flt := by
  cases H with
  | fault a b c d => exact .fault (h.trans a) b c d
  | tok a b c => exact .tok (h.trans a) b c
end
/-- the row behind a state -/
def A5 (pn sp : Bool) (k : K5) (cur : List Nat) (l : List Nat) : List (List Nat) := (l.foldl (astep pn sp) (if joins k then [cur] else [], k)).1
theorem fold_acc (pn sp : Bool) : ∀ (l : List Nat) (acc a : List (List Nat)) (k k' : K5), (joins k = true → a ≠ []) → (joins k = true ∨ joins k' = true → k = k') → (l.foldl (astep pn sp) (acc ++ a, k)).1 = acc ++ (l.foldl (astep pn sp) (a, k')).1
  | [], _, _, _, _, _, _ => rfl
  | c :: r, acc, a, k, k', ha, hk => by
    rw [List.foldl_cons, List.foldl_cons]
    unfold astep
    dsimp only
    cases hj : joins (kd5 pn sp c) with
    | true =>
      by_cases e : kd5 pn sp c = k
      · have e' : kd5 pn sp c = k' := by rw [← hk (.inl (e ▸ hj)), e]
        have ha' := ha (e ▸ hj)
        rw [decide_eq_true e, decide_eq_true e']
        simp only [Bool.and_true, if_true]
        have e1 : (acc ++ a).dropLast ++ [(acc ++ a).getLastD [] ++ [c]] = acc ++ (a.dropLast ++ [a.getLastD [] ++ [c]]) := by
          obtain ⟨gi, l, rfl⟩ : ∃ gi l, a = gi ++ [l] := ⟨_, _, (List.dropLast_concat_getLast ha').symm⟩
          rw [← List.append_assoc, List.dropLast_concat, List.dropLast_concat, List.getLastD_concat, List.getLastD_concat, List.append_assoc]
        rw [e1]
        exact fold_acc pn sp r acc _ _ _ (fun _ => by simp) fun _ => rfl
      · have e' : ¬ kd5 pn sp c = k' := fun e9 => e ((hk (.inr (e9 ▸ hj))).symm ▸ e9)
        rw [decide_eq_false e, decide_eq_false e']
        have hw : ¬ kd5 pn sp c = .white := fun h => by rw [h] at hj; cases hj
        simp only [Bool.false_and, Bool.false_eq_true, if_false, decide_eq_false hw]
        rw [List.append_assoc]
        exact fold_acc pn sp r acc _ _ _ (fun _ => by simp) fun _ => rfl
    | false =>
      simp only [Bool.and_false, Bool.false_eq_true, if_false]
      by_cases hw : kd5 pn sp c = .white
      · simp only [decide_eq_true hw, if_true]
        exact fold_acc pn sp r acc _ _ _ (fun h => by rw [hj] at h; cases h) fun _ => rfl
      · simp only [decide_eq_false hw, Bool.false_eq_true, if_false]
        rw [List.append_assoc]
        exact fold_acc pn sp r acc _ _ _ (fun _ => by simp) fun _ => rfl
section
variable {pn sp : Bool} {l cur : List Nat} {k : K5} {c : Nat}
theorem a5_join (hk : kd5 pn sp c = k) (hj : joins k = true) : A5 pn sp k cur (c :: l) = A5 pn sp k (cur ++ [c]) l := by
  unfold A5
  rw [List.foldl_cons]
  congr 2
  unfold astep
  rw [hk, hj]
  simp
/-- a sign that begins a token -/
theorem a5_new (hk : kd5 pn sp c = k) (hw : k ≠ .white) {k0 : K5} (h0 : joins k = true → k ≠ k0) : A5 pn sp k0 cur (c :: l) = (if joins k0 then [cur] else []) ++ (if joins k then A5 pn sp k [c] l else [c] :: A5 pn sp .white [] l) := by
  unfold A5
  rw [List.foldl_cons]
  have e : astep pn sp (if joins k0 then [cur] else [], k0) c = ((if joins k0 then [cur] else []) ++ [[c]], k) := by
    unfold astep
    rw [hk]
    have : (decide (k = k0) && joins k) = false := by
      cases hj : joins k with
      | false => simp
      | true => rw [decide_eq_false (h0 hj)]; rfl
    simp only [this, Bool.false_eq_true, if_false, decide_eq_false hw]
  rw [e, fold_acc pn sp l _ [[c]] k k (fun _ => by simp) (fun _ => rfl)]
  congr 1
  cases hj : joins k with
  | true => rfl
  | false =>
    exact fold_acc pn sp l [[c]] [] k .white (fun h => by rw [hj] at h; cases h) fun h => h.elim (fun h => by rw [hj] at h; cases h) fun h => by cases h
theorem a5_ws (hk : kd5 pn sp c = .white) {k0 : K5} : A5 pn sp k0 cur (c :: l) = (if joins k0 then [cur] else []) ++ A5 pn sp .white [] l := by
  unfold A5
  rw [List.foldl_cons]
  have e : astep pn sp (if joins k0 then [cur] else [], k0) c = ((if joins k0 then [cur] else []) ++ [], .white) := by
    unfold astep
    rw [hk]
    have : (decide (K5.white = k0) && joins .white) = false := by simp [joins]
    simp only [this, Bool.false_eq_true, if_false, decide_true, if_true, List.append_nil]
  rw [e]
  exact fold_acc pn sp l _ [] .white .white (fun h => by cases h) (fun _ => rfl)
theorem kd_b (h : isB c) : kd5 pn sp c = .word := by rcases h with rfl | rfl <;> (unfold kd5; rfl)
theorem kd_ws (h : c = 32 ∨ c = 10) : kd5 pn sp c = .white := by rcases h with rfl | rfl <;> (unfold kd5; rfl)
theorem kd_run : kd5 true sp 124 = .run := rfl
theorem kd_wrd : kd5 false true 124 = .word := rfl
theorem kd_lon : kd5 false false 124 = .lone := rfl
end
def nl5 (l : List Nat) : Int := (l.filter (· == 10)).length
theorem nl_cons (c : Nat) (l : List Nat) (ln : Int) : ln + nl5 (c :: l) = lnp c ln + nl5 l := by
  unfold nl5 lnp
  cases h : c == 10 <;> simp [h]; omega
theorem nl_ne {c : Nat} {l : List Nat} (h : (c == 10) = false) : nl5 (c :: l) = nl5 l := by
  unfold nl5; simp [h]
abbrev ov5 (pn : Bool) : Option Nat → List (List Nat) := if pn then ovP else ovN
abbrev bk5 (pn : Bool) : Option Nat → List Nat := if pn then bkP else bkN
theorem tk_ahead {b sp pn : Bool} {R : List Nat} {flt : List Nat × S5 × Int} : ∀ (l : List Nat) (ln : Int), (∀ c ∈ l, H5 c) → (Tk5 (ov5 pn) (bk5 pn) (RF b sp pn) R .white [] (ln + nl5 l) [] flt) →
    (Tk5 (ov5 pn) (bk5 pn) (RF b sp pn) (l ++ 32 :: R) .white [] ln (A5 pn sp .white [] (l ++ [32])) flt) ∧
    (∀ tok, tok.isEmpty = false → Tk5 (ov5 pn) (bk5 pn) (RF b sp pn) (l ++ 32 :: R) .word tok ln (A5 pn sp .word tok (l ++ [32])) flt) ∧
    (pn = true → ∀ tok, tok.isEmpty = false → Tk5 (ov5 pn) (bk5 pn) (RF b sp pn) (l ++ 32 :: R) .punct tok ln (A5 pn sp .run tok (l ++ [32])) flt)
  | [], ln, _, h => by
    have h : Tk5 (ov5 pn) (bk5 pn) (RF b sp pn) R .white [] ln [] flt := by simpa [nl5] using h
    have e0 : ∀ k cur, A5 pn sp k cur [32] = (if joins k then [cur] else []) ++ [] := fun k cur => a5_ws (kd_ws (.inl rfl))
    refine ⟨?_, ?_, ?_⟩
    · rw [List.nil_append, List.nil_append, e0]
      exact tk_step (rf_ws (.inl rfl)) h
    · intro tok ht
      rw [List.nil_append, List.nil_append, e0]
      have := Tk5.tok (over := ov5 pn) (back := bk5 pn) (F := RF b sp pn) (rf_ow (.inl rfl)) ht (ts := []) (flt := flt) (by cases pn <;> exact h)
      cases pn <;> exact this
    · intro _ tok ht
      rw [List.nil_append, List.nil_append, e0]
      have := Tk5.tok (over := ov5 pn) (back := bk5 pn) (F := RF b sp pn) (rf_pw (.inl rfl)) ht (ts := []) (flt := flt) (by cases pn <;> exact h)
      cases pn <;> exact this
  | c :: r, ln, hl, h => by
    rw [nl_cons] at h
    obtain ⟨i1, i2, i3⟩ := tk_ahead r (lnp c ln) (fun x hx => hl x (.tail _ hx)) h
    have hc := hl c (.head _)
    have hc : isB c ∨ (c = 32 ∨ c = 10) ∨ c = 124 := by
      unfold H5 at hc; unfold isB
      simp only [List.mem_cons, List.not_mem_nil, or_false] at hc
      rcases hc with h | h | h | h | h
      · exact .inl (.inl h)
      · exact .inl (.inr h)
      · exact .inr (.inl (.inl h))
      · exact .inr (.inl (.inr h))
      · exact .inr (.inr h)
    rw [List.cons_append, List.cons_append]
    rcases hc with hc | hc | rfl
    · rw [lnp_b hc] at i1 i2 i3
      refine ⟨?_, ?_, ?_⟩
      · rw [a5_new (kd_b hc) (by decide) (by decide)]
        exact tk_step (rf_wb hc) (i2 [c] rfl)
      · intro tok ht
        rw [a5_join (kd_b hc) rfl]
        exact tk_step (rf_ob hc) (i2 _ (by cases tok <;> simp))
      · intro hp tok ht
        subst hp
        rw [a5_new (kd_b hc) (by decide) (by decide)]
        exact Tk5.tok (rf_pb hc) ht (ts := A5 true sp .word [c] (r ++ [32])) (tk_step (rf_wb hc) (i2 [c] rfl))
    · refine ⟨?_, ?_, ?_⟩
      · rw [a5_ws (kd_ws hc)]
        exact tk_step (rf_ws hc) i1
      · intro tok ht
        rw [a5_ws (kd_ws hc)]
        cases pn
        · exact Tk5.tok (rf_ow hc) ht (ts := A5 false sp .white [] (r ++ [32])) i1
        · exact Tk5.tok (rf_ow hc) ht (ts := A5 true sp .white [] (r ++ [32])) i1
      · intro _ tok ht
        rw [a5_ws (kd_ws hc)]
        cases pn
        · exact Tk5.tok (rf_pw hc) ht (ts := A5 false sp .white [] (r ++ [32])) i1
        · exact Tk5.tok (rf_pw hc) ht (ts := A5 true sp .white [] (r ++ [32])) i1
    · have el : lnp 124 ln = ln := rfl
      rw [el] at i1 i2 i3
      cases pn with
      | true =>
        refine ⟨?_, ?_, ?_⟩
        · rw [a5_new kd_run (by decide) (by decide)]
          exact tk_step rf_bar (i3 rfl [124] rfl)
        · intro tok ht
          rw [a5_new kd_run (by decide) (by decide)]
          have e : RF b sp true (124 :: (r ++ 32 :: R)) .word tok ln = some (.ok tok .white (r ++ 32 :: R) ln (some 124)) := by
            rw [rf_obar]; cases sp <;> rfl
          exact Tk5.tok e ht (ts := A5 true sp .run [124] (r ++ [32])) (tk_step rf_bar (i3 rfl [124] rfl))
        · intro _ tok ht
          rw [a5_join kd_run rfl]
          exact tk_step rf_pbar (i3 rfl _ (by cases tok <;> simp))
      | false =>
        cases sp with
        | true =>
          refine ⟨?_, ?_, fun h => by cases h⟩
          · rw [a5_new kd_wrd (by decide) (by decide)]
            exact tk_step rf_bar (i2 [124] rfl)
          · intro tok ht
            rw [a5_join kd_wrd rfl]
            exact tk_step rf_obar (i2 _ (by cases tok <;> simp))
        | false =>
          refine ⟨?_, ?_, fun h => by cases h⟩
          · rw [a5_new kd_lon (by decide) (by decide)]
            exact Tk5.tok (rf_bar (pn := false)) rfl (ts := A5 false false .white [] (r ++ [32])) i1
          · intro tok ht
            rw [a5_new kd_lon (by decide) (by decide)]
            exact Tk5.tok (rf_obar (pn := false)) ht (ts := A5 false false .white [] (r ++ [32])) i1
theorem rf_in {b sp pn : Bool} {q : Nat} {R : List Nat} : ∀ (inn : List Nat) (tok : List Nat) (ln : Int), (∀ c ∈ inn, c ≠ q ∧ (b && isE c && isD q) = false) → RF b sp pn (inn ++ R) (.quote q) tok ln = RF b sp pn R (.quote q) (tok ++ inn) (ln + nl5 inn)
  | [], tok, ln, _ => by simp [nl5]
  | c :: r, tok, ln, h => by
    obtain ⟨h1, h2⟩ := h c (.head _)
    rw [nl_cons, List.cons_append]
    have := rf_in (b := b) (sp := sp) (pn := pn) (R := R) r (tok ++ [c]) (lnp c ln) fun x hx => h x (.tail _ hx)
    rw [List.append_assoc] at this
    refine Eq.trans ?_ this
    rw [rf_eq, re_q]
    simp only [beq_eq_false_iff_ne.mpr h1, Bool.false_eq_true, if_false, h2]
theorem rf_stem {sp pn : Bool} {R : List Nat} {ln : Int} : ∀ (stem : List Nat) (tok : List Nat), (∀ c ∈ stem, B5 c) → RF true sp pn (stem ++ R) .word tok ln = RF true sp pn R .word (tok ++ stem) ln
  | [], tok, _ => by simp
  | c :: r, tok, h => by
    have hc : isB c := by have := h c (.head _); simpa [B5, isB] using this
    have := rf_stem (sp := sp) (pn := pn) (R := R) (ln := ln) r (tok ++ [c]) fun x hx => h x (.tail _ hx)
    rw [List.append_assoc] at this
    rw [List.cons_append, rf_ob hc, this]; rfl
theorem rf_open {sp pn : Bool} {R : List Nat} {ln : Int} {q : Nat} (hq : isM q) (stem : List Nat) (h : ∀ c ∈ stem, B5 c) : RF true sp pn (stem ++ q :: R) .white [] ln = RF true sp pn R (.quote q) stem ln := by
  cases stem with
  | nil => rw [List.nil_append, rf_wm hq]; rfl
  | cons c r =>
    have hc : isB c := by have := h c (.head _); simpa [B5, isB] using this
    rw [List.cons_append, rf_wb hc, rf_stem r [c] (fun x hx => h x (.tail _ hx)), rf_om hq]; rfl
theorem rf_end {b sp pn : Bool} {q : Nat} {tok : List Nat} {ln : Int} : RF b sp pn [] (.quote q) tok ln = some (.fault tok (.quote q) ln) ∧ RF b sp pn [] .esc tok ln = some (.fault tok .esc ln) := ⟨rfl, rfl⟩
end Mine

end
section
namespace Mine
section
variable {prog' : Program} {w : World} {A : Around} {h₀ : Heap} {L : Addr} {m : Str → Option Value} {s : Shared} {σ : Type} {I S : Addr} {res : Value} {R : Result → Shared → Prop}
variable {K : Frag} {C lx : Addr} {ox : Obj} {od : Option Obj}
theorem touch_obj (k : Nat) : ∃ k', Obj.mapSeq (·.pop) (Obj.mapSeq (·.push Value.none) (listOf #[] k)) = listOf #[] k' := ⟨_, by simp [Obj.mapSeq, W.listOf]; rfl⟩
theorem own_extend {k : Nat} {lg : List (Addr × Obj)} (X₀ : K.In h₀) (hF : Fr h₀ L s.heap m) (hN : News h₀ L s.heap ((S, listOf #[] k) :: lg)) (hS : ∀ p ∈ lg, p.1 ≠ S) (Ii : InstAt s.heap lx ox C od) (hSI : S ≠ lx) (hl : findIn K (.ref C) "__len__" = some none) (hh : findIn K (.ref C) "__length_hint__" = some none)
    (it : ∀ (Q E : Value → Shared → Prop), (∀ h' tk ox od, Fr h₀ L h' m → News h₀ L h' ((S, listOf #[] k) :: lg) → InstAt h' lx ox C od → Q (.ref lx) { s with heap := h', toks := tk }) → wpAny (model prog' w) A.in1 (pyIter (.ref lx)) Q E s)
    (h : ∀ h' tk k', Fr h₀ L h' m → News h₀ L h' ((S, listOf #[] k') :: lg) → codeAny (model prog' w) A (.builtin "list.extend.loop" ⟨[.ref S, .ref lx, res], []⟩) R { s with heap := h', toks := tk }) :
    wpAny (model prog' w) A.in1 (Builtin.List.listExtendWith (.ref S) (.ref lx) res)
      (fun fin s' => match fin with | .done f => R (.ok f) s' | .again c' => c'.quiet = true ∧ codeAny (model prog' w) A c' R s') (fun e s' => R (.error e) s') s := by
  unfold Builtin.List.listExtendWith
  refine wpAny_bind (Ii.type.here ?_)
  have h1 : Builtin.List.listSameRef (.ref S) (.ref lx) = false := by simp [Builtin.List.listSameRef, hSI]
  have h2 : (Value.ref C == Value.type "list") = false := rfl
  have h3 : (Value.ref C == Value.type "tuple") = false := rfl
  simp only [h1, h2, h3, Bool.or_false, Bool.false_eq_true, if_false]
  refine wpAny_bind (it _ _ fun h' tk ox' od' F' N' I' => ?_)
  refine wpAny_bind (wpAny_holding ?_)
  unfold Builtin.List.listLengthHint
  have X' := X₀.keeps F'.keep
  refine wpAny_bind (wpAny_bind (I'.type.here ((looks_findIn X' hl).here ?_)))
  show wpAny _ A.in1 (specialOf (Value.ref lx) (Str.ofString "__length_hint__") >>= _) _ _ _
  refine wpAny_bind (wpAny_bind (I'.type.here ((looks_findIn X' hh).here ?_)))
  refine wpAny_pure ?_
  show wpAny _ A.in1 (rule "list.extend.makes-room" >>= fun _ => Builtin.List.listTouch (.ref S) >>= fun _ =>
    again (.builtin "list.extend.loop" ⟨[.ref S, .ref lx, res], []⟩)) _ _ _
  refine wpAny_bind (wpAny_rule ?_)
  refine wpAny_bind ?_
  show wpAny _ A.in1 (updateSeq S (·.push .none) >>= fun _ => updateSeq S (·.pop)) _ _ _
  have z := N' (S, listOf #[] k) (.head _)
  refine wpAny_bind (wpAny_updateSeq z.1 rfl ?_)
  have U := news_upd (pre := []) F' N' (fun p hp => nomatch hp) hS (f := Obj.mapSeq (·.push Value.none)) rfl rfl
  have z2 := U.2 (S, _) (.head _)
  obtain ⟨k', hk⟩ := touch_obj k
  have U2 := news_upd (pre := []) U.1 U.2 (fun p hp => nomatch hp) hS hk rfl
  refine wpAny_updateSeq (hz := by seq_fits) z2.1 rfl ?_
  exact wpAny_pure ⟨plainId_quiet F.plain_extend_loop _, h _ _ k' U2.1 U2.2⟩
theorem own_listE {lg : List (Addr × Obj)} {Q E : Value → Shared → Prop} (X₀ : K.In h₀) (hF : Fr h₀ L s.heap m) (hN : News h₀ L s.heap lg) (hl : findIn K (.ref C) "__len__" = some none) (hh : findIn K (.ref C) "__length_hint__" = some none) (hC : (lx, ox) ∈ lg)
    (hI : ∀ h, News h₀ L h lg → ∃ ox od, InstAt h lx ox C od)
    (it : ∀ S h tk (Q E : Value → Shared → Prop), (∀ p ∈ lg, p.1 ≠ S) → Fr h₀ L h m → News h₀ L h ((S, listOf #[] 0) :: lg) → (∀ h' tk, Fr h₀ L h' m → News h₀ L h' ((S, listOf #[] 0) :: lg) → Q (.ref lx) { s with heap := h', toks := tk }) → wpAny (model prog' w) A.in1.in1 (pyIter (.ref lx)) Q E { s with heap := h, toks := tk })
    (h : ∀ S h' tk k' (R : Result → Shared → Prop), (∀ p ∈ lg, p.1 < S) → Fr h₀ L h' m → News h₀ L h' ((S, listOf #[] k') :: lg) → (∀ s', Q (.ref S) s' → R (.ok (.ret .none)) s') → (∀ e s', E e s' → R (.error e) s') → codeAny (model prog' w) A.in1 (.builtin "list.extend.loop" ⟨[.ref S, .ref lx, .none], []⟩) R { s with heap := h', toks := tk }) :
    wpAny (model prog' w) A (call (.type "list") [.ref lx]) Q E s := by
  have hlt : ∀ p ∈ lg, p.1 < s.heap.objs.size := fun p hp => Heap.lt_size (hN p hp).1
  have hne : ∀ p ∈ lg, p.1 ≠ s.heap.objs.size := fun p hp => Nat.ne_of_lt (hlt p hp)
  refine callType_codes (Q₁ := fun obj s₁ => obj = .ref s.heap.objs.size ∧ s₁ = { s with heap := s.heap.push { cls := .type "list", data := .seq #[] } }) F.called_list (F.typeCall_list_1 _) F.entry_list_init
    (code_list_new _ ⟨rfl, rfl⟩) fun obj s₁ h₁ => ?_
  obtain ⟨rfl, rfl⟩ := h₁
  have hSz : (s.heap.push { cls := .type "list", data := .seq #[] }).get? s.heap.objs.size = some { cls := .type "list", data := .seq #[] } := Heap.get?_push_size _ rfl
  have F1 : Fr h₀ L (s.heap.push { cls := .type "list", data := .seq #[] }) m := hF.push _
  have N1 : News h₀ L (s.heap.push { cls := .type "list", data := .seq #[] }) ((s.heap.objs.size, listOf #[] 0) :: lg) := hN.push hF _
  refine ⟨⟨_, hSz, rfl⟩, F.args_list_init_2 _ _, ?_⟩
  show wpAny _ A.in1.in1 (do let old ← Builtin.List.listItems (.ref s.heap.objs.size); Builtin.List.listUpdate (.ref s.heap.objs.size) (fun _ => #[]); letGo old.toList.reverse; Builtin.List.listExtendWith (.ref s.heap.objs.size) (.ref lx) .none) _ _ _
  refine wpAny_bind ?_
  unfold Builtin.List.listItems
  refine wpAny_bind (wpAny_seqItems hSz rfl (wpAny_pure ?_))
  show wpAny _ A.in1.in1 (updateSeq s.heap.objs.size (fun _ => #[]) >>= fun _ => letGo (#[] : Array Value).toList.reverse >>= fun _ => Builtin.List.listExtendWith (.ref s.heap.objs.size) (.ref lx) .none) _ _ _
  refine wpAny_bind (wpAny_updateSeq hSz rfl ?_)
  have U := news_upd (pre := []) F1 N1 (fun p hp => nomatch hp) hne (f := Obj.mapSeq (fun _ => (#[] : Array Value))) (o' := listOf #[] 0) rfl rfl
  refine wpAny_bind (wpAny_letGo ?_)
  have N2 : News h₀ L _ lg := fun p hp => U.2 p (.tail _ hp)
  obtain ⟨ox', od', I'⟩ := hI _ N2
  refine own_extend (A := A.in1) (s := { s with heap := _, toks := _ }) X₀ U.1 U.2 hne I' (fun e => hne _ hC e.symm) hl hh ?_ ?_
  · intro Q' E' hQ'
    refine it s.heap.objs.size _ _ Q' E' hne U.1 U.2 fun h' tk F' N' => ?_
    obtain ⟨ox'', od'', I''⟩ := hI h' fun p hp => N' p (.tail _ hp)
    exact hQ' h' tk ox'' od'' F' N' I''
  · intro h' tk k' F' N'
    exact h s.heap.objs.size h' tk k' _ hlt F' N' (fun s' hq => ⟨rfl, hq⟩) (fun e s' he => he)
end
theorem sv5_str {st : S5} {v : Value} (h : SV5 st v) (h2 : st = .esc ∨ ∃ q, st = .quote q) : ∃ y t, v = .str y t := by
  rcases h2 with rfl | ⟨q, rfl⟩
  · obtain ⟨t, rfl⟩ := h; exact ⟨_, _, rfl⟩
  · obtain ⟨_, t, rfl⟩ := h; exact ⟨_, _, rfl⟩
theorem own_raise {M : Model} {A : Around} {E : Value → Shared → Prop} {s : Shared} {base g : Heap} {Q : Option Value → Shared → Prop} {l : List Env} {e t : Addr} {vs : List Value} {news : List (Addr × Obj)} {X : String}
    (R : RaisedS base g l e (.type X) t vs news s.heap) (hsub : isSubtype (.type X) (.type "StopIteration") = pure false) (k : E (.ref e) s) : OwitStop M A Q E (.ref e) s := by
  obtain ⟨⟨B, hB, _, _, hfl, _⟩, _⟩ := R
  obtain ⟨ob, hob, hobc⟩ := hfl.there
  have hT : s.TypeIs (.ref e) X := (show ∃ o, s.heap.get? e = some o ∧ o.cls = .type X from ⟨ob, hob, hobc⟩)
  unfold OwitStop
  refine wpAny_isInstance hT hsub ?_
  show (if false = true then Q none s else E (.ref e) s)
  rw [if_neg (by simp)]
  exact k
theorem val_stop : isSubtype (.type "ValueError") (.type "StopIteration") = pure false := by rw [isSubtype_type]; kernel_rfl
theorem news_sub5 {h₀ h : Heap} {L : Addr} {a : Addr × Obj} {A R R' : List (Addr × Obj)} (N : News h₀ L h (a :: (A ++ R'))) (hs : ∀ p ∈ R, p ∈ R') : News h₀ L h (a :: (A ++ R)) := by
  intro p hp
  refine N p ?_
  simp only [List.mem_append, List.mem_cons] at hp ⊢
  rcases hp with h | h | h
  · exact .inl h
  · exact .inr (.inl h)
  · exact .inr (.inr (hs p h))
theorem news_mv {h₀ h : Heap} {L : Addr} {a : Addr × Obj} {A R : List (Addr × Obj)} (N : News h₀ L h (a :: (A ++ R))) : News h₀ L h (A ++ (a :: R)) := by
  intro p hp
  refine N p ?_
  simp only [List.mem_append, List.mem_cons] at hp ⊢
  rcases hp with h | h | h <;> simp [h]
end Mine
namespace Mine
section
variable {w : World} {A₀ : Around} {base h₀ : Heap} {outer : List Env} {L : Addr} {m mg mb : Str → Option Value} {loose : List Str} {mean : ExcName → Option Value} {s : Shared} {Q E : Value → Shared → Prop} {p : Program}
  {hdl : Option Value} {d u : Nat} {gs : Option (List Code)} {rest : List (Addr × Obj)} {ns : List (Str × NameKind)} {ig ic : Bool} {mo : List (Str × Const)} {gl bi : Addr} {cs : List (Str × Addr)} {qn : Str} {fo : Option Addr} {cdv : Value}
theorem it5 {lx : Addr}
  (B : Below A₀ base outer h₀) (F : Fr h₀ L s.heap m) (X : (hd.heap_1 w.params).In h₀) (T : Top p loose mean mg mb h₀) (hdp : d < 900) (hun : u < 9000)
  (N : News h₀ L s.heap rest)
  (hQ : ∀ h' k, Fr h₀ L h' m → News h₀ L h' rest → Q (.ref lx) { s with heap := h', toks := k })
  : wpAny (model prog w) (ar hdl d (fenv ns ig ic mo gl cs qn fo cdv bi L :: outer) gs u) (call (.ref 712) [.ref lx]) Q E s := by
  refine wpAny_call ?_
  k_enter
  k_steps
  exact hQ _ _ (by assumption) (by assumption)
end
end Mine

end
section
namespace Mine
/-! the lexer as one thing, with and without punctuation -/
def Flt5 (P : Params) (x : Str) (pn b sp : Bool) (lx : Addr) (lg : List (Addr × Obj)) (pv : List Value) (flt : List Nat × S5 × Int) : Prop :=
  if pn then FltP P x b sp lx lg pv flt else FltN P x b sp lx lg pv flt
theorem Flt5.lex {P : Params} {x : Str} {pn b sp : Bool} {lx : Addr} {lg : List (Addr × Obj)} {flt : List Nat × S5 × Int} (h : Flt5 P x pn b sp lx lg [] flt) : Lex5 P x pn b sp lx lg [] [] flt := by
  cases pn
  · exact FltN.lex h
  · exact FltP.lex h
theorem lex5_ctP {P : Params} {x : Str} {b sp : Bool} {lx io iod pb fs pc dx : Addr} {kt : IoT} {t1 ts tl tt k19 : Tok} {T : LxT} {ev : Value} {toks : List (List Nat)} {flt : List Nat × S5 × Int} (hev : EV b ev) (o1 : @LT.lt Nat _ dx lx) (o2 : @LT.lt Nat _ lx iod) (o3 : @LT.lt Nat _ iod io) (o4 : @LT.lt Nat _ io pb) (o5 : @LT.lt Nat _ pb fs) (o6 : @LT.lt Nat _ fs pc)
  (hT : Tk5 ovP bkP (RF b sp true) x.cps.toList .white [] 1 toks flt) :
  Lex5 P x true b sp lx [(io, instObj 587 iod), (iod, ioD P kt x 0 t1), (pc, dqO [] 0), (lx, instObj 722 dx), (dx, lexP P T k19 b sp ev (Str.ofString "#") (WP b) (Str.ofString "();<>|&") pb fs io pc .none (.str (Str.ofString " ") ts) 1 tl (Str.ofString "") tt), (pb, dqO [] 0), (fs, dqO [] 0)] [] toks flt :=
  ⟨kt, T, k19, ev, pb, fs, io, iod, pc, dx, 0, 0, ⟨.str (Str.ofString " ") ts, 1, tl, Str.ofString "", tt, 0, t1, [], 0, false⟩, .white, [], [], rfl, hev, o1, o2, o3, o4, o5, o6, ⟨ts, rfl⟩, .inl ⟨rfl, rfl⟩, S_nil, by simp, .inl ⟨rfl, rfl⟩, hT⟩
theorem lex5_ctN {P : Params} {x : Str} {b sp : Bool} {lx io iod pb fs dx : Addr} {kt : IoT} {t1 ts tl tt : Tok} {T : LxT} {ev : Value} {toks : List (List Nat)} {flt : List Nat × S5 × Int} (hev : EV b ev) (o1 : @LT.lt Nat _ dx lx) (o2 : @LT.lt Nat _ lx iod) (o3 : @LT.lt Nat _ iod io) (o4 : @LT.lt Nat _ io pb) (o5 : @LT.lt Nat _ pb fs)
  (hT : Tk5 ovN bkN (RF b sp false) x.cps.toList .white [] 1 toks flt) :
  Lex5 P x false b sp lx [(io, instObj 587 iod), (iod, ioD P kt x 0 t1), (pb, dqO [] 0), (lx, instObj 722 dx), (dx, lexD P T b sp ev (Str.ofString "#") (WC b) pb fs io .none (.str (Str.ofString " ") ts) 1 tl (Str.ofString "") tt), (fs, dqO [] 0)] [] toks flt :=
  ⟨kt, T, ev, fs, io, iod, pb, dx, 0, ⟨.str (Str.ofString " ") ts, 1, tl, Str.ofString "", tt, 0, t1, [], 0, false⟩, .white, [], toks, [], rfl, hev, o1, o2, o3, o4, o5, ⟨ts, rfl⟩, ⟨[], .inl ⟨rfl, rfl⟩, rfl⟩, rfl, S_nil, by simp, .inl ⟨rfl, rfl⟩, hT⟩
section
variable {w : World} {A₀ : Around} {base h₀ : Heap} {outer : List Env} {L : Addr} {m mg mb : Str → Option Value} {loose : List Str} {mean : ExcName → Option Value} {s : Shared} {Q E : Value → Shared → Prop} {p : Program}
  {hdl : Option Value} {d u : Nat} {gs : Option (List Code)} {rest : List (Addr × Obj)} {ns : List (Str × NameKind)} {ig ic : Bool} {mo : List (Str × Const)} {gl bi : Addr} {cs : List (Str × Addr)} {qn : Str} {fo : Option Addr} {cdv : Value}
theorem lex5_tok {x : Str} {pn b sp : Bool} {lx : Addr} {lg : List (Addr × Obj)} {t : List Nat} {ts : List (List Nat)} {flt : List Nat × S5 × Int}
  (B : Below A₀ base outer h₀) (F : Fr h₀ L s.heap m) (X : (hd.heap_1 w.params).In h₀) (T : Top p loose mean mg mb h₀) (hdp : d < 800) (hun : u < 8000)
  (hx : x.length ≤ 40000) (hL : Lex5 w.params x pn b sp lx lg [] (t :: ts) flt) (hap : Ap5 lg rest) (N : News h₀ L s.heap (lg ++ rest))
  (hQ : ∀ h' lg' tt k, Fr h₀ L h' m → News h₀ L h' (lg' ++ rest) → Lex5 w.params x pn b sp lx lg' [] ts flt → Same5 lg lg' → Q (.str (S t) tt) { s with heap := h', toks := k })
  : wpAny (model prog w) (ar none d (fenv ns ig ic mo gl cs qn fo cdv bi L :: outer) gs u) (call (.ref 683) [.ref lx]) Q E s := by
  cases pn
  · exact lexN_tok B F X T hdp hun hx hL hap N hQ
  · exact lexP_tok B F X T hdp hun hx hL hap N hQ
theorem flt5_push {x : Str} {pn b sp : Bool} {lx : Addr} {lg : List (Addr × Obj)} {v : Value} {flt : List Nat × S5 × Int}
  (B : Below A₀ base outer h₀) (F : Fr h₀ L s.heap m) (X : (hd.heap_1 w.params).In h₀) (T : Top p loose mean mg mb h₀) (hdp : d < 800) (hun : u < 8000)
  (hL : Flt5 w.params x pn b sp lx lg [] flt) (hap : Ap5 lg rest) (N : News h₀ L s.heap (lg ++ rest))
  (hQ : ∀ h' lg' k, Fr h₀ L h' m → News h₀ L h' (lg' ++ rest) → Flt5 w.params x pn b sp lx lg' [v] flt → Same5 lg lg' → Q .none { s with heap := h', toks := k })
  : wpAny (model prog w) (ar hdl d (fenv ns ig ic mo gl cs qn fo cdv bi L :: outer) gs u) (call (.ref 661) [.ref lx, v]) Q E s := by
  cases pn
  · exact fltN_push B F X T hdp hun hL hap N hQ
  · exact fltP_push B F X T hdp hun hL hap N hQ
theorem flt5_pop {x : Str} {pn b sp : Bool} {lx : Addr} {lg : List (Addr × Obj)} {v : Value} {flt : List Nat × S5 × Int}
  (B : Below A₀ base outer h₀) (F : Fr h₀ L s.heap m) (X : (hd.heap_1 w.params).In h₀) (T : Top p loose mean mg mb h₀) (hdp : d < 800) (hun : u < 8000)
  (hL : Flt5 w.params x pn b sp lx lg [v] flt) (hap : Ap5 lg rest) (N : News h₀ L s.heap (lg ++ rest))
  (hQ : ∀ h' lg' k, Fr h₀ L h' m → News h₀ L h' (lg' ++ rest) → Flt5 w.params x pn b sp lx lg' [] flt → Same5 lg lg' → Q v { s with heap := h', toks := k })
  : wpAny (model prog w) (ar hdl d (fenv ns ig ic mo gl cs qn fo cdv bi L :: outer) gs u) (call (.ref 683) [.ref lx]) Q E s := by
  cases pn
  · exact fltN_pop B F X T hdp hun hL hap N hQ
  · exact fltP_pop B F X T hdp hun hL hap N hQ
end
end Mine

end
section
namespace Mine
/-! helpers of the law's walk -/
def VP (g : Heap) (L : Addr) (m : Str → Option Value) (N0 : List (Addr × Obj)) (s : Shared) (R : Value → Nat → Prop) (v : Value) (s' : Shared) : Prop :=
  ∃ h tk, s' = { s with heap := h, toks := tk } ∧ Fr g L h m ∧ News g L h N0 ∧ R v tk
def SP (g : Heap) (L : Addr) (s : Shared) (R : (Str → Option Value) → List (Addr × Obj) → Nat → Prop) (s' : Shared) : Prop :=
  ∃ h tk m' l, s' = { s with heap := h, toks := tk } ∧ Fr g L h m' ∧ News g L h l ∧ R m' l tk
section
variable {w : World} {A : Around} {E : Value → Shared → Prop} {s : Shared} {g h : Heap} {L : Addr} {m : Str → Option Value} {N0 l : List (Addr × Obj)} {tk : Nat} {env : Env}
theorem vp_mk {R : Value → Nat → Prop} {v : Value} (F : Fr g L h m) (N : News g L h l) (hs : ∀ p ∈ N0, p ∈ l) (hR : R v tk) : VP g L m N0 s R v { s with heap := h, toks := tk } := ⟨h, tk, rfl, F, fun p hp => N p (hs p hp), hR⟩
theorem sp_mk {R : (Str → Option Value) → List (Addr × Obj) → Nat → Prop} {l' : List (Addr × Obj)} (F : Fr g L h m) (N : News g L h l) (hs : ∀ p ∈ l', p ∈ l) (hR : R m l' tk) : SP g L s R { s with heap := h, toks := tk } := ⟨h, tk, m, l', rfl, F, fun p hp => N p (hs p hp), hR⟩
/-- an expression, walked apart: what it gives, and that nothing else is lost -/
theorem val_mid (R : Value → Nat → Prop) {e : Expr} {Q : Value → Shared → Prop} (_ : Fr g L s.heap m) (_ : News g L s.heap N0) (h1 : wpAny (model prog w) A (eval e env) (VP g L m N0 s R) E s)
    (h2 : ∀ v h tk, R v tk → s.toks ≤ tk → Fr g L h m → News g L h N0 → Q v { s with heap := h, toks := tk }) : wpAny (model prog w) A (eval e env) Q E s :=
  any_toks (wpAny_mono h1 (fun v s' hh ht => by obtain ⟨h, tk, rfl, F', N', r⟩ := hh; exact h2 v h tk r ht F' N') fun _ _ x => x)
/-- a statement, walked apart -/
theorem st_mid (R : (Str → Option Value) → List (Addr × Obj) → Nat → Prop) {st : Stmt} {rest : List Stmt} {Q : Flow → Shared → Prop} (_ : Fr g L s.heap m) (h1 : wpAny (model prog w) A (exec st env) (fun f s' => match f with | .next => SP g L s R s' | f => Q f s') E s)
    (h2 : ∀ m' l h tk, R m' l tk → s.toks ≤ tk → Fr g L h m' → News g L h l → wpAny (model prog w) A (execs rest env) Q E { s with heap := h, toks := tk }) : wpAny (model prog w) A (execs (st :: rest) env) Q E s := by
  refine execs_mid (fun s' => SP g L s R s' ∧ s.toks ≤ s'.toks) ?_ ?_
  · refine any_toks (wpAny_mono h1 (fun f s' hh ht => ?_) fun _ _ x => x)
    cases f with
    | next => exact ⟨hh, ht⟩
    | _ => exact hh
  · rintro s' ⟨⟨h, tk, m', l, rfl, F', N', r⟩, ht⟩
    exact h2 m' l h tk r ht F' N'
end
section
variable {w : World} {A : Around} {E : Value → Shared → Prop} {s : Shared} {Q : Value → Shared → Prop} {t u v : Tok} {x y : List Nat} {q : Nat}
theorem nil_is : Str.ofString "" = (⟨#[]⟩ : Str) := by decide +kernel
theorem rep_one (hu : u ≠ 0) (hv : v ≠ 0) (huv : u ≠ v) (hx : x.length ≤ 100000) (h : ∀ t' k, Q (.str (S (x.filter (· != q))) t') { s with toks := k }) :
    wpAny (model prog w) A (call (.builtin "str.replace") [.str (S x) t, .str ⟨#[q]⟩ u, .str (Str.ofString "") v]) Q E s := by
  rw [nil_is]
  refine SC.replaceW hu hv huv ?_ (by simp [S, Str.length]; omega) (by decide) fun t' k => ?_
  · apply Bool.eq_false_iff.mpr; intro hh; have e := eq_of_beq hh; injection e with e1; simp at e1
  · have e : Txt.replace (S x) ⟨#[q]⟩ ⟨#[]⟩ = S (x.filter (· != q)) := by
      have := PyProof.Rows.replace_strikes (S x) q
      have e2 : (S x).cps.toList = x := by simp [S]
      rw [e2] at this
      rw [← this]
      simp [S]
    rw [e]; exact h t' k
theorem cnt_nl : ∀ l : List Nat, PySem.Spec.countIn (.str ⟨#[10]⟩) (l.map fun n => PyData.str ⟨#[n]⟩) = nl5 l
  | [] => rfl
  | c :: r => by
    refine ((PyProof.Rows.cnt_cons 10 c r).trans (congrArg (fun z => (if c = 10 then (1 : Int) else 0) + z) (cnt_nl r))).trans ?_
    unfold nl5
    by_cases h : c = 10
    · subst h; simp; omega
    · simp [h]
theorem count_nl (h : ∀ t' k, Q (.int (nl5 x) t') { s with toks := k }) : wpAny (model prog w) A (call (.builtin "str.count") [.str (S x) t, .str (Str.ofString "\n") u]) Q E s := by
  refine KXw.count (i := nl5 x) ?_ h
  have e : Str.ofString "\n" = (⟨#[10]⟩ : Str) := by decide +kernel
  rw [e, PyProof.Rows.count_is, ← cnt_nl x]
  simp [S]
theorem add_SS (hx : x.length + y.length ≤ 100000) (h : ∀ t' k, Q (.str (S (x ++ y)) t') { s with toks := k }) : wpAny (model prog w) A (binaryOp .Add (.str (S x) t) (.str (S y) u)) Q E s := by
  refine PyProof.Rows.add_str (fun t' k => ?_) ?_
  · have e : S x ++ S y = S (x ++ y) := by
      show Str.append _ _ = _
      simp [Str.append, S]
    rw [e]; exact h t' k
  · simp only [S, Str.length, List.size_toArray, sizeLine]; omega
theorem tup_ne {g : Heap} {L d p : Addr} {news : List (Addr × Obj)} {a b c : Str} {n : Int} {t1 t2 t3 t4 u1 u2 u3 u4 : Tok} (N : News g L s.heap news) (hd : (d, { cls := .type "tuple", data := .seq #[.str a t1, .str b t2, .str c t3, .int n t4] }) ∈ news) (hp : (p, { cls := .type "tuple", data := .seq #[.str a u1, .str b u2, .str c u3, .int n u4] }) ∈ news)
    (ha : PyData.strOk a = true) (hb : PyData.strOk b = true) (hc : PyData.strOk c = true) (hu : A.units + 64 < cLine) (h : Q (.bool false) s) : wpAny (model prog w) A (compareOp .NotEq (.ref d) (.ref p)) Q E s := by
  have hs : SeqAt.shaped (.tuple [.str a, .str b, .str c, .int n]) = true := by
    simp [SeqAt.shaped, PyData.canLay0, PyData.canLayAll0, PyData.depth, PyData.depthAll, ha, hb, hc]
  refine ne_dataH (reads_tuple_at (N.get hd) rfl rfl (.cons (.str _ _) (.cons (.str _ _) (.cons (.str _ _) (.cons (.int _ _) .nil))))) (reads_tuple_at (N.get hp) rfl rfl (.cons (.str _ _) (.cons (.str _ _) (.cons (.str _ _) (.cons (.int _ _) .nil))))) hs hs hu ?_
  have e : PyData.eqv (.tuple [.str a, .str b, .str c, .int n]) (.tuple [.str a, .str b, .str c, .int n]) = true := by
    simp [PyData.eqv, PyData.eqvAll]
  rw [e]; exact h
theorem strOk_S (h : ∀ c ∈ x, c < 1114112) : PyData.strOk (S x) = true := by
  unfold PyData.strOk
  rw [Array.all_eq_true']
  intro c hc
  have : c ∈ x := by simpa [S] using hc
  simpa using h c this
end
/-- what the text ends with -/
def tl5 : Nat → List Nat
  | 2 => [39, 92]
  | 3 => [92]
  | _ => []
def held5 (k q : Nat) (st inn : List Nat) : List Nat := if k = 0 then q :: inn else st ++ inn
def fs5 (k q : Nat) : S5 := if k < 2 then .quote q else .esc
def st5 (k q : Nat) : Nat := if k < 2 then q else 92
theorem nl_app (a b : List Nat) : nl5 (a ++ b) = nl5 a + nl5 b := by unfold nl5; rw [List.filter_append, List.length_append]; omega
theorem nl_stem {st : List Nat} (h : ∀ c ∈ st, B5 c) : nl5 st = 0 := by
  unfold nl5
  rw [List.filter_eq_nil_iff.mpr]; rfl
  intro c hc e
  have := h c hc
  unfold B5 at this
  simp at this e
  omega
/-- the plain law -/
theorem k01 : ∀ {k : Nat}, k < 2 → k = 0 ∨ k = 1
  | 0, _ => .inl rfl
  | 1, _ => .inr rfl
  | _ + 2, h => absurd h (Nat.not_lt.mpr (Nat.le_add_left 2 _))
theorem k23 : ∀ {k : Nat}, 2 ≤ k → k < 4 → k = 2 ∨ k = 3
  | 2, _, _ => .inl rfl
  | 3, _, _ => .inr rfl
  | 0, h, _ => absurd h (by decide)
  | 1, h, _ => absurd h (by decide)
  | _ + 4, _, h => absurd h (Nat.not_lt.mpr (Nat.le_add_left 4 _))
theorem law5_tk {sp pn : Bool} {k q : Nat} {hd st inn : List Nat} (hk : k < 4) (hq : isM q) (h2 : k = 2 → q = 39) (h3 : k = 3 → q = 34) (hh : ∀ c ∈ hd, H5 c) (hs : ∀ c ∈ st, B5 c) (h0 : k = 0 → st = [])
    (hi : ∀ c ∈ inn, c ≠ q ∧ (decide (0 < k) && isE c && isD q) = false) (hl : hd.length + st.length + inn.length ≤ 1000) :
    Tk5 (ov5 pn) (bk5 pn) (RF (decide (0 < k)) sp pn) (hd ++ [32] ++ st ++ [q] ++ inn ++ tl5 k) .white [] 1 (afold pn sp (hd ++ [32])).1 (held5 k q st inn, fs5 k q, 1 + nl5 (hd ++ [32] ++ st ++ [q] ++ inn ++ tl5 k)) := by
  have hq10 : (q == 10) = false := by rcases hq with rfl | rfl <;> rfl
  have en : 1 + nl5 (hd ++ [32] ++ st ++ [q] ++ inn ++ tl5 k) = 1 + nl5 hd + nl5 inn := by
    have e1 : nl5 (tl5 k) = 0 := by unfold tl5; split <;> rfl
    have e2 : nl5 [32] = 0 := rfl
    have e3 : nl5 [q] = 0 := by rw [nl_ne hq10]; rfl
    rw [nl_app, nl_app, nl_app, nl_app, nl_app, e1, e2, e3, nl_stem hs]; omega
  rw [en]
  have ea : hd ++ [32] ++ st ++ [q] ++ inn ++ tl5 k = hd ++ 32 :: (st ++ q :: (inn ++ tl5 k)) := by simp
  rw [ea]
  have hlen : (held5 k q st inn).length ≤ 40000 := by unfold held5; split <;> simp <;> omega
  refine (tk_ahead hd 1 hh ?_).1
  rcases Nat.lt_or_ge k 2 with hk2 | hk2
  · have et : tl5 k = [] := by rcases (k01 hk2) with rfl | rfl <;> rfl
    have ef : fs5 k q = .quote q := if_pos hk2
    rw [et, ef]
    refine .fault ?_ rf_end.1 (.inr ⟨q, rfl⟩) hlen
    rcases (k01 hk2) with rfl | rfl
    · rw [h0 rfl, List.nil_append]
      have := rf_wm (b := decide (0 < 0)) (sp := sp) (pn := pn) (r := inn ++ []) (tok := []) (ln := 1 + nl5 hd) hq
      rw [this, rf_in inn _ _ hi, rf_end.1]; rfl
    · have := rf_open (sp := sp) (pn := pn) (R := inn ++ []) (ln := 1 + nl5 hd) hq st hs
      have hb : decide (0 < 1) = true := rfl
      rw [hb] at hi ⊢
      rw [this, rf_in inn _ _ hi, rf_end.1]; rfl
  · have ef : fs5 k q = .esc := if_neg (Nat.not_lt.mpr hk2)
    rw [ef]
    have hb : decide (0 < k) = true := decide_eq_true (Nat.lt_of_lt_of_le (by decide) hk2)
    rw [hb] at hi ⊢
    refine .fault ?_ (rf_end (q := 0)).2 (.inl rfl) hlen
    have eh : held5 k q st inn = st ++ inn := if_neg (fun e => absurd (e ▸ hk2) (by decide))
    rw [eh, rf_open hq st hs, rf_in inn _ _ hi]
    rcases (k23 hk2 hk) with rfl | rfl
    · rw [h2 rfl]; rfl
    · rw [h3 rfl]; rfl
end Mine
namespace Mine
def Lw5 (g : Heap) (L : Addr) (s : Shared) (s' : Shared) : Prop :=
  ∃ h tk D vs nums nn m', s' = { s with heap := h, toks := tk } ∧ Fr g L h m' ∧ News g L h [(D, listOf (vs : List Value).toArray nn)] ∧ IntsAre vs nums ∧ nums ≠ [] ∧ nums.length ≤ 40 ∧ m' (Str.ofString "numbers") = some (.ref D)
theorem lw5_mid {g h : Heap} {L D : Addr} {s : Shared} {tk nn : Nat} {vs : List Value} {nums : List Int} {m' : Str → Option Value} {l : List (Addr × Obj)} (F : Fr g L h m') (N : News g L h l) (hi : IntsAre vs nums) (h1 : nums ≠ []) (h2 : nums.length ≤ 40)
  (h3 : m' (Str.ofString "numbers") = some (.ref D)) (hl : (D, listOf vs.toArray nn) ∈ l) : Lw5 g L s { s with heap := h, toks := tk } :=
  ⟨h, tk, D, vs, nums, nn, m', rfl, F, fun p hp => by rw [List.mem_singleton.mp hp]; exact N _ hl, hi, h1, h2, h3⟩
theorem lw5_if {w : World} {A : Around} {E : Value → Shared → Prop} {env : Env} {st : Stmt} {rest : List Stmt} {Q : Flow → Shared → Prop} {g : Heap} {L : Addr} {s : Shared} {m : Str → Option Value} (_ : Fr g L s.heap m)
    (h1 : wpAny (model prog w) A (exec st env) (fun f s' => match f with | .next => Lw5 g L s s' | f => Q f s') E s)
    (h2 : ∀ h tk D vs nums nn (m' : Str → Option Value), Fr g L h (fun y => if y = Str.ofString "numbers" then some (.ref D) else m' y) → News g L h [(D, listOf (vs : List Value).toArray nn)] → IntsAre vs nums → nums ≠ [] → nums.length ≤ 40 →
      wpAny (model prog w) A (execs rest env) Q E { s with heap := h, toks := tk }) : wpAny (model prog w) A (execs (st :: rest) env) Q E s :=
  execs_mid (Lw5 g L s) h1 (by
    rintro s' ⟨h, tk, D, vs, nums, nn, m', rfl, F', N', a, b, c, d⟩
    refine h2 h tk D vs nums nn m' ?_ N' a b c
    have ee : (fun y => if y = Str.ofString "numbers" then some (.ref D) else m' y) = m' := by
      funext y
      by_cases hy : y = Str.ofString "numbers"
      · rw [if_pos hy, hy, d]
      · rw [if_neg hy]
    rw [ee]
    exact F')
theorem mod4 (n : Int) : ∃ k : Nat, k < 4 ∧ n.fmod 4 = (k : Int) := by
  have h1 := Int.fmod_nonneg_of_pos n (show (0 : Int) < 4 by decide)
  have h2 := Int.fmod_lt_of_pos n (show (0 : Int) < 4 by decide)
  exact ⟨(n.fmod 4).toNat, by omega, by omega⟩
theorem item5m {k : Int} (h0 : 0 ≤ k) (hk : k < 2) : ∃ c, Txt.item (Str.ofString "'\"") k = ⟨#[c]⟩ ∧ isM c :=
  item_any (by decide +kernel) (by unfold isM; decide +kernel) h0 (by (have : (Str.ofString "'\"").cps.toList.length = 2 := (by decide +kernel)); omega)
theorem mark_a {n : Int} {t tk k : Nat} (h2 : ¬ k = 2) (h3 : ¬ k = 3) (ht : 0 < t) (hk : t < tk) : ∃ q u, Value.str (Txt.item (Str.ofString "'\"") (n.fmod 2)) t = .str (S [q]) u ∧ isM q ∧ (k = 2 → q = 39) ∧ (k = 3 → q = 34) ∧ 0 < u ∧ u < tk := by
  obtain ⟨q, e, hq⟩ := item5m (Int.fmod_nonneg_of_pos n (show (0 : Int) < 2 by decide)) (Int.fmod_lt_of_pos n (by decide))
  exact ⟨q, t, by rw [e]; rfl, hq, fun h => absurd h h2, fun h => absurd h h3, ht, hk⟩
theorem mark_b {x : Str} {q t tk k : Nat} (hx : (x = Str.ofString "'" ∧ q = 39) ∨ (x = Str.ofString "\"" ∧ q = 34)) (h2 : k = 2 → q = 39) (h3 : k = 3 → q = 34) (ht : 0 < t) (hk : t < tk) : ∃ q u, Value.str x t = .str (S [q]) u ∧ isM q ∧ (k = 2 → q = 39) ∧ (k = 3 → q = 34) ∧ 0 < u ∧ u < tk := by
  rcases hx with ⟨rfl, rfl⟩ | ⟨rfl, rfl⟩
  · exact ⟨39, t, by congr 1, .inl rfl, h2, h3, ht, hk⟩
  · exact ⟨34, t, by congr 1, .inr rfl, h2, h3, ht, hk⟩
theorem eq_dq {w : World} {A : Around} {E : Value → Shared → Prop} {s : Shared} {Q : Value → Shared → Prop} {q : Nat} {t u : Tok} {b : Bool} (e : (q == 34) = b) (h : Q (.bool b) s) : wpAny (model prog w) A (compareOp .Eq (.str (S [q]) t) (.str (Str.ofString "\"") u)) Q E s :=
  eq_ch (c := q) (k := 34) (by decide +kernel) e h
abbrev psA (k q : Nat) (sp pn : Bool) (hd st inn : List Nat) (t1 t2 t3 t4 t5 : Tok) : List (Str × Value) :=
  [(Str.ofString "inner", .str (S inn) t1), (Str.ofString "stem", .str (S st) t2), (Str.ofString "head", .str (S hd) t3), (Str.ofString "punctuation", .bool pn), (Str.ofString "split", .bool sp), (Str.ofString "mark", .str (S [q]) t4), (Str.ofString "kind", .int (k : Int) t5)]
theorem rep_bs {w : World} {A : Around} {E : Value → Shared → Prop} {s : Shared} {Q : Value → Shared → Prop} {x : List Nat} {t u v : Tok} (hu : u ≠ 0) (hv : v ≠ 0) (huv : u ≠ v) (hx : x.length ≤ 100000) (h : ∀ t' k, Q (.str (S (x.filter (· != 92))) t') { s with toks := k }) :
    wpAny (model prog w) A (call (.builtin "str.replace") [.str (S x) t, .str (Str.ofString "\\") u, .str (Str.ofString "") v]) Q E s := by
  have e : Str.ofString "\\" = (⟨#[92]⟩ : Str) := by decide +kernel
  rw [e]
  exact rep_one hu hv huv hx h
def Has (m : Str → Option Value) (ps : List (Str × Value)) : Prop := ∀ p ∈ ps, m p.1 = some p.2
theorem has7 {m : Str → Option Value} {a1 a2 a3 a4 a5 a6 a7 : Str × Value} (h1 : m a1.1 = some a1.2) (h2 : m a2.1 = some a2.2) (h3 : m a3.1 = some a3.2) (h4 : m a4.1 = some a4.2) (h5 : m a5.1 = some a5.2) (h6 : m a6.1 = some a6.2) (h7 : m a7.1 = some a7.2) :
    Has m [a1, a2, a3, a4, a5, a6, a7] := by
  intro p hp
  simp only [List.mem_cons, List.not_mem_nil, or_false] at hp
  rcases hp with rfl | rfl | rfl | rfl | rfl | rfl | rfl <;> assumption
theorem inn_t {q k : Nat} {inn : List Nat} (h : q = 34) : ∀ c ∈ (inn.filter (· != q)).filter (· != 92), c ≠ q ∧ (decide (0 < k) && isE c && isD q) = false := by
  intro c hc
  obtain ⟨h1, h2⟩ := List.mem_filter.mp hc
  have h3 := (List.mem_filter.mp h1).2
  refine ⟨by simpa using h3, ?_⟩
  have : isE c = false := by
    have h5 : c ≠ 92 := by simpa using h2
    have h6 : (Str.ofString "\\").cps.toList = [92] := by decide +kernel
    unfold isE
    rw [h6]
    simpa using h5
  rw [this]; simp
theorem inn_k {q k : Nat} {inn : List Nat} (h : ¬ 0 < k) : ∀ c ∈ inn.filter (· != q), c ≠ q ∧ (decide (0 < k) && isE c && isD q) = false := by
  intro c hc
  have h3 := (List.mem_filter.mp hc).2
  exact ⟨by simpa using h3, by rw [decide_eq_false h]; rfl⟩
theorem inn_f {q k : Nat} {inn : List Nat} (hq : isM q) (h : (q == 34) = false) : ∀ c ∈ inn.filter (· != q), c ≠ q ∧ (decide (0 < k) && isE c && isD q) = false := by
  intro c hc
  have h3 := (List.mem_filter.mp hc).2
  refine ⟨by simpa using h3, ?_⟩
  have : isD q = false := by
    rcases hq with rfl | rfl
    · decide +kernel
    · cases h
  rw [this]; simp
theorem kst_intro {g h : Heap} {L : Addr} {m : Str → Option Value} {ps : List (Str × Value)} (F : Fr g L h m) (hp : ∀ p ∈ ps, m p.1 = some p.2) : ∃ m', Fr g L h (kstB m' ps) := by
  refine ⟨m, ?_⟩
  have e : kstB m ps = m := by
    funext z
    exact kstB_eq hp fun _ => rfl
  rw [e]
  exact F
theorem sp_S : Str.ofString " " = S [32] := by decide +kernel
theorem bs_S : Str.ofString "\\" = S [92] := by decide +kernel
theorem qb_S : Str.ofString "'\\" = S [39, 92] := by decide +kernel
theorem add_lit {w : World} {A : Around} {E : Value → Shared → Prop} {s : Shared} {Q : Value → Shared → Prop} {x y : List Nat} {z : Str} {t u : Tok} (hz : z = S y) (hx : x.length + y.length ≤ 100000) (h : ∀ t' k, Q (.str (S (x ++ y)) t') { s with toks := k }) : wpAny (model prog w) A (binaryOp .Add (.str (S x) t) (.str z u)) Q E s := by
  subst hz; exact add_SS hx h
theorem h5_join {hd st : List Nat} (h : ∀ c ∈ hd, H5 c) (hs : ∀ c ∈ st, B5 c) : ∀ c ∈ hd ++ [32] ++ st, H5 c := by
  intro c hc
  rcases List.mem_append.mp hc with hc | hc
  · rcases List.mem_append.mp hc with hc | hc
    · exact h c hc
    · rw [List.mem_singleton.mp hc]; unfold H5; decide
  · have := hs c hc
    unfold B5 at this
    unfold H5
    simp only [List.mem_cons, List.not_mem_nil, or_false] at this ⊢
    exact this.elim .inl fun h => .inr (.inl h)
theorem tl_0 {k : Nat} (h : k = 0 ∨ k = 1) : tl5 k = [] := by rcases h with rfl | rfl <;> rfl
theorem tl_2 {k : Nat} (h : k = 2) : tl5 k = [39, 92] := by subst h; rfl
theorem tl_3 {k : Nat} (h : k = 3) : tl5 k = [92] := by subst h; rfl
theorem msg_q {k q : Nat} {t : Tok} (h : k < 2) : ∃ u, Value.str (Str.ofString "No closing quotation") t = .str (msgP (fs5 k q)) u := ⟨t, by unfold fs5; rw [if_pos h]; rfl⟩
theorem msg_e {k q : Nat} {t : Tok} (h : ¬ k < 2) : ∃ u, Value.str (Str.ofString "No escaped character") t = .str (msgP (fs5 k q)) u := ⟨t, by unfold fs5; rw [if_neg h]; rfl⟩
theorem S_length' (x : List Nat) : (S x).length = x.length := by simp [S, Str.length]
theorem S_codes (x : List Nat) : (S x).cps.toList = x := by simp [S]
theorem news_as {g h : Heap} {L : Addr} {a c : List (Addr × Obj)} {b : Addr × Obj} (N : News g L h ((a ++ [b]) ++ c)) : News g L h (a ++ b :: c) := by simpa using N
end Mine

end
section
namespace Mine
/-! the lexer in the law's own frame: made, set, and the two loops -/
abbrev cnN (P : Params) (x : Str) (b sp : Bool) (kt : IoT) (T : LxT) (ev : Value) (t1 ts tl tt : Tok) (lx dx io iod pb fs : Addr) : List (Addr × Obj) :=
  [(io, instObj 587 iod), (iod, ioD P kt x 0 t1), (pb, dqO [] 0), (lx, instObj 722 dx), (dx, lexD P T b sp ev (Str.ofString "#") (WC b) pb fs io .none (.str (Str.ofString " ") ts) 1 tl (Str.ofString "") tt), (fs, dqO [] 0)]
abbrev cnP (P : Params) (x : Str) (b sp : Bool) (kt : IoT) (T : LxT) (k19 : Tok) (ev : Value) (t1 ts tl tt : Tok) (lx dx io iod pb fs pc : Addr) : List (Addr × Obj) :=
  [(io, instObj 587 iod), (iod, ioD P kt x 0 t1), (pc, dqO [] 0), (lx, instObj 722 dx), (dx, lexP P T k19 b sp ev (Str.ofString "#") (WP b) (Str.ofString "();<>|&") pb fs io pc .none (.str (Str.ofString " ") ts) 1 tl (Str.ofString "") tt), (pb, dqO [] 0), (fs, dqO [] 0)]
inductive Cn5 (P : Params) (x : Str) (pn b sp : Bool) (lx : Addr) (lg : List (Addr × Obj)) : Prop where
  | N (h : pn = false) (kt : IoT) (T : LxT) (ev : Value) (t1 ts tl tt : Tok) (dx io iod pb fs : Addr) (hev : EV b ev) (o1 : @LT.lt Nat _ dx lx) (o2 : @LT.lt Nat _ lx iod) (o3 : @LT.lt Nat _ iod io) (o4 : @LT.lt Nat _ io pb) (o5 : @LT.lt Nat _ pb fs) (e : lg = cnN P x b sp kt T ev t1 ts tl tt lx dx io iod pb fs)
  | P (h : pn = true) (kt : IoT) (T : LxT) (k19 : Tok) (ev : Value) (t1 ts tl tt : Tok) (dx io iod pb fs pc : Addr) (hev : EV b ev) (o1 : @LT.lt Nat _ dx lx) (o2 : @LT.lt Nat _ lx iod) (o3 : @LT.lt Nat _ iod io) (o4 : @LT.lt Nat _ io pb) (o5 : @LT.lt Nat _ pb fs) (o6 : @LT.lt Nat _ fs pc) (e : lg = cnP P x b sp kt T k19 ev t1 ts tl tt lx dx io iod pb fs pc)
theorem cn5_lex {P : Params} {x : Str} {pn b sp : Bool} {lx : Addr} {lg : List (Addr × Obj)} {toks : List (List Nat)} {flt : List Nat × S5 × Int} (h : Cn5 P x pn b sp lx lg) (hT : Tk5 (ov5 pn) (bk5 pn) (RF b sp pn) x.cps.toList .white [] 1 toks flt) : Lex5 P x pn b sp lx lg [] toks flt := by
  rcases h with ⟨rfl, kt, T, ev, t1, ts, tl, tt, dx, io, iod, pb, fs, hev, o1, o2, o3, o4, o5, rfl⟩ | ⟨rfl, kt, T, k19, ev, t1, ts, tl, tt, dx, io, iod, pb, fs, pc, hev, o1, o2, o3, o4, o5, o6, rfl⟩
  · exact lex5_ctN hev o1 o2 o3 o4 o5 hT
  · exact lex5_ctP hev o1 o2 o3 o4 o5 o6 hT
theorem ap_N {P : Params} {x : Str} {b sp : Bool} {kt : IoT} {T : LxT} {ev : Value} {t1 ts tl tt : Tok} {lx dx io iod pb fs D : Addr} {o : Obj} (o1 : @LT.lt Nat _ dx lx) (o2 : @LT.lt Nat _ lx iod) (o3 : @LT.lt Nat _ iod io) (a : @LT.lt Nat _ D dx) (a4 : @LT.lt Nat _ D pb) (a5 : @LT.lt Nat _ D fs) : Ap5 (cnN P x b sp kt T ev t1 ts tl tt lx dx io iod pb fs) [(D, o)] := by
  intro r hr p hp
  rw [List.mem_singleton.mp hp]
  have b1 := Nat.lt_trans a o1
  have b2 := Nat.lt_trans b1 o2
  have b3 := Nat.lt_trans b2 o3
  simp only [cnN, List.mem_cons, List.not_mem_nil, or_false] at hr
  rcases hr with rfl | rfl | rfl | rfl | rfl | rfl <;> (apply Nat.ne_of_lt; assumption)
theorem ap_P {P : Params} {x : Str} {b sp : Bool} {kt : IoT} {T : LxT} {ev : Value} {k19 t1 ts tl tt : Tok} {lx dx io iod pb fs pc D : Addr} {o : Obj} (o1 : @LT.lt Nat _ dx lx) (o2 : @LT.lt Nat _ lx iod) (o3 : @LT.lt Nat _ iod io) (a : @LT.lt Nat _ D dx) (a4 : @LT.lt Nat _ D pb) (a5 : @LT.lt Nat _ D fs) (a6 : @LT.lt Nat _ D pc) : Ap5 (cnP P x b sp kt T k19 ev t1 ts tl tt lx dx io iod pb fs pc) [(D, o)] := by
  intro r hr p hp
  rw [List.mem_singleton.mp hp]
  have b1 := Nat.lt_trans a o1
  have b2 := Nat.lt_trans b1 o2
  have b3 := Nat.lt_trans b2 o3
  simp only [cnP, List.mem_cons, List.not_mem_nil, or_false] at hr
  rcases hr with rfl | rfl | rfl | rfl | rfl | rfl | rfl <;> (apply Nat.ne_of_lt; assumption)
theorem has5 {m : Str → Option Value} {a1 a2 a3 a4 a5 : Str × Value} (h1 : m a1.1 = some a1.2) (h2 : m a2.1 = some a2.2) (h3 : m a3.1 = some a3.2) (h4 : m a4.1 = some a4.2) (h5 : m a5.1 = some a5.2) : Has m [a1, a2, a3, a4, a5] := by
  intro p hp
  simp only [List.mem_cons, List.not_mem_nil, or_false] at hp
  rcases hp with rfl | rfl | rfl | rfl | rfl <;> assumption
theorem has2 {m : Str → Option Value} {a1 a2 : Str × Value} (h1 : m a1.1 = some a1.2) (h2 : m a2.1 = some a2.2) : Has m [a1, a2] := by
  intro p hp
  simp only [List.mem_cons, List.not_mem_nil, or_false] at hp
  rcases hp with rfl | rfl <;> assumption
theorem Ap5.two {lg R : List (Addr × Obj)} {D : Addr} {o : Obj} (h : Ap5 lg [(D, o)]) (hr : Ap5 lg R) : Ap5 lg ((D, o) :: R) := by
  intro q hq p hp
  rcases List.mem_cons.mp hp with rfl | hp
  · exact h q hq _ (.head _)
  · exact hr q hq p hp
theorem ap_own {lg lg0 R own : List (Addr × Obj)} (h : OwnOff own ((lg0 ++ R).map (·.1))) (hs : Same5 lg0 lg) : Ap5 lg own := by
  intro q hq p hp
  have : q.1 ∈ lg.map (·.1) := List.mem_map.mpr ⟨q, hq, rfl⟩
  rw [hs] at this
  refine h.ne ?_ p hp
  rw [List.map_append]
  exact List.mem_append_left _ this
theorem ne_SS {w : World} {A : Around} {E : Value → Shared → Prop} {s : Shared} {Q : Value → Shared → Prop} {x : Str} {t u : Tok} (h : Q (.bool false) s) : wpAny (model prog w) A (compareOp .NotEq (.str x t) (.str x u)) Q E s := by
  refine P.ne_str ?_
  have : (!(x.cps.toList == x.cps.toList)) = false := by simp
  first | exact h | (rw [this]; exact h) | (simp; exact h)
/-- a turn of the loop over the row ends -/
theorem w1_end {g h h2 : Heap} {L : Addr} {s : Shared} {tk tk2 : Nat} {X : Str} {ps : List (Str × Value)} {m1 m2 : Str → Option Value} {P : List Str → List (Addr × Obj) → Prop} {pre : List Str} {n : Str} {lg0 lg R own N0 : List (Addr × Obj)}
  (F : Fr g L h2 m2) (N : News g L h2 N0) (hN : ∀ p ∈ (lg ++ R) ++ own, p ∈ N0) (hs : Same5 lg0 lg) (hm : Has m2 ps) (hr : ∀ z, z ≠ X → (∀ p ∈ ps, z ≠ p.1) → m2 z = m1 z) (hP : P (pre ++ [n]) lg) :
  InvEndN g L (StS (σ := List (Addr × Obj)) (fun lg => lg ++ R) (fun _ => ps) X [] m1 P (pre ++ [n])) own ((lg0 ++ R).map (·.1)) { s with heap := h, toks := tk } { s with heap := h2, toks := tk2 } := by
  refine ⟨_, _, _, _, lg ++ R, rfl, F, N, fun p hp => hN p (List.mem_append_left _ hp), fun p hp => hN p (List.mem_append_right _ hp), ?_, lg, rfl, hm, fun z hx hp _ => hr z hx hp, hP⟩
  rw [List.map_append, List.map_append, hs]
theorem w2_end {g h h2 : Heap} {L : Addr} {s : Shared} {tk tk2 : Nat} {X : Str} {ps : List (Str × Value)} {m1 m2 : Str → Option Value} {P : List Int → List (Addr × Obj) → Prop} {pre : List Int} {n : Int} {a : Addr × Obj} {lg0 lg R own N0 : List (Addr × Obj)}
  (F : Fr g L h2 m2) (N : News g L h2 N0) (hN : ∀ p ∈ (a :: (lg ++ R)) ++ own, p ∈ N0) (hs : Same5 lg0 lg) (hm : Has m2 ps) (hr : ∀ z, z ≠ X → (∀ p ∈ ps, z ≠ p.1) → m2 z = m1 z) (hP : P (pre ++ [n]) lg) :
  InvEndN g L (KstS (σ := List (Addr × Obj)) (fun lg => a :: (lg ++ R)) (fun _ => ps) (fun _ => True) X [] m1 P (pre ++ [n])) own ((a :: (lg0 ++ R)).map (·.1)) { s with heap := h, toks := tk } { s with heap := h2, toks := tk2 } := by
  refine ⟨_, _, _, _, a :: (lg ++ R), rfl, F, N, fun p hp => hN p (List.mem_append_left _ hp), fun p hp => hN p (List.mem_append_right _ hp), ?_, lg, rfl, trivial, hm, fun z hx hp _ => hr z hx hp, hP⟩
  rw [List.map_cons, List.map_cons, List.map_append, List.map_append, hs]
def P1 (P : Params) (x : Str) (pn b sp : Bool) (lx : Addr) (row : List (List Nat)) (flt : List Nat × S5 × Int) (lg0 : List (Addr × Obj)) (pre : List Str) (lg : List (Addr × Obj)) : Prop :=
  ∃ dn rm, row = dn ++ rm ∧ pre = dn.map S ∧ Lex5 P x pn b sp lx lg [] rm flt ∧ Same5 lg0 lg
theorem p1_next {P : Params} {x : Str} {pn b sp : Bool} {lx : Addr} {row : List (List Nat)} {flt : List Nat × S5 × Int} {lg0 lg : List (Addr × Obj)} {pre post : List Str} {n : Str} (h : P1 P x pn b sp lx row flt lg0 pre lg) (e : row.map S = pre ++ n :: post) :
  ∃ t rm, n = S t ∧ Lex5 P x pn b sp lx lg [] (t :: rm) flt ∧ Same5 lg0 lg ∧ ∀ lg', Lex5 P x pn b sp lx lg' [] rm flt → Same5 lg lg' → P1 P x pn b sp lx row flt lg0 (pre ++ [n]) lg' := by
  obtain ⟨dn, rm, rfl, rfl, hL, hs⟩ := h
  rw [List.map_append] at e
  have e := List.append_cancel_left e
  cases rm with
  | nil => cases e
  | cons t rm =>
    rw [List.map_cons] at e
    injection e with e1 e2
    subst e1
    exact ⟨t, rm, rfl, hL, hs, fun lg' hL' hs' => ⟨dn ++ [t], rm, by simp, by simp, hL', Eq.trans hs' hs⟩⟩
theorem p1_done {P : Params} {x : Str} {pn b sp : Bool} {lx : Addr} {row : List (List Nat)} {flt : List Nat × S5 × Int} {lg0 lg : List (Addr × Obj)} (h : P1 P x pn b sp lx row flt lg0 (row.map S) lg) : Lex5 P x pn b sp lx lg [] [] flt ∧ Same5 lg0 lg := by
  obtain ⟨dn, rm, e1, e2, hL, hs⟩ := h
  have := congrArg List.length e2
  rw [e1] at this
  simp at this
  subst this
  exact ⟨hL, hs⟩
theorem sv_st {k q : Nat} {sv : Value} (h : SV5 (fs5 k q) sv) : ∃ t, sv = .str (S [st5 k q]) t := by
  unfold fs5 at h
  unfold st5
  split at h
  · rw [if_pos (by assumption)]; obtain ⟨_, t, rfl⟩ := h; exact ⟨t, rfl⟩
  · rw [if_neg (by assumption)]; obtain ⟨t, rfl⟩ := h; exact ⟨t, rfl⟩
end Mine
namespace Mine
theorem allLt_mem {d : Addr} {l : List (Addr × Obj)} (h : AllLt d l) : ∀ p ∈ l, @LT.lt Nat _ p.1 d := ktn_ltOf h
theorem rest2 {X a b : Str} {v va vb : Value} {u m0 : Str → Option Value} : ∀ z, z ≠ X → (∀ p ∈ [(a, va), (b, vb)], z ≠ p.1) → (fun y => if y = X then some v else kstB (fun z => if List.contains ([] : List Str) z then u z else m0 z) [(a, va), (b, vb)] y) z = m0 z := by
  intro z h1 h2
  have h3 : ¬ z = a := h2 (a, va) (.head _)
  have h4 : ¬ z = b := h2 (b, vb) (.tail _ (.head _))
  show (if z = X then some v else kstB (fun z => if List.contains ([] : List Str) z then u z else m0 z) [(a, va), (b, vb)] z) = m0 z
  rw [if_neg h1]
  show (if z = a then some va else (if z = b then some vb else m0 z)) = m0 z
  rw [if_neg h3, if_neg h4]
end Mine
namespace Mine
/-- the lexer's methods are its class's -/
def Mth (h : Heap) (lx : Addr) : Prop := ∃ ox es n, InstAt h lx ox 722 (some (dictOf es n)) ∧ getL (Str.ofString "get_token") es = some none ∧ getL (Str.ofString "push_token") es = some none ∧ getL (Str.ofString "read_token") es = some none
theorem mth_N {P : Params} {T : LxT} {b sp : Bool} {ev : Value} {cm wc : Str} {pb fs io : Addr} {f sv : Value} {ln : Int} {tl : Tok} {tk : Str} {tt : Tok} {h₀ h : Heap} {L lx dx : Addr} {l : List (Addr × Obj)} (N : News h₀ L h l) (h1 : (lx, instObj 722 dx) ∈ l) (h2 : (dx, lexD P T b sp ev cm wc pb fs io f sv ln tl tk tt) ∈ l) : Mth h lx :=
  ⟨_, _, _, InstAt.of_news N h1 h2, by k_get, by k_get, by k_get⟩
theorem mth_P {P : Params} {T : LxT} {k19 : Tok} {b sp : Bool} {ev : Value} {cm wc pu : Str} {pb fs io pc : Addr} {f sv : Value} {ln : Int} {tl : Tok} {tk : Str} {tt : Tok} {h₀ h : Heap} {L lx dx : Addr} {l : List (Addr × Obj)} (N : News h₀ L h l) (h1 : (lx, instObj 722 dx) ∈ l) (h2 : (dx, lexP P T k19 b sp ev cm wc pu pb fs io pc f sv ln tl tk tt) ∈ l) : Mth h lx :=
  ⟨_, _, _, InstAt.of_news N h1 h2, by k_get, by k_get, by k_get⟩
theorem mth5 {P : Params} {x : Str} {pn b sp : Bool} {lx : Addr} {lg : List (Addr × Obj)} {pv : List Value} {toks : List (List Nat)} {flt : List Nat × S5 × Int} {h₀ h : Heap} {L : Addr} {R : List (Addr × Obj)} (hL : Lex5 P x pn b sp lx lg pv toks flt) (N : News h₀ L h (lg ++ R)) : Mth h lx := by
  cases pn
  · obtain ⟨kt, T1, ev, fs, io, iod, pc, dx, fn, c, st, ov, ts0, l, rfl, hrest⟩ := hL
    exact mth_N N (List.mem_append_left _ (.tail _ (.tail _ (.tail _ (.head _))))) (List.mem_append_left _ (.tail _ (.tail _ (.tail _ (.tail _ (.head _))))))
  · obtain ⟨kt, T1, k19, ev, pb, fs, io, iod, pc, dx, pk, fn, c, st, pq, l, rfl, hrest⟩ := hL
    exact mth_P N (List.mem_append_left _ (.tail _ (.tail _ (.tail _ (.head _))))) (List.mem_append_left _ (.tail _ (.tail _ (.tail _ (.tail _ (.head _))))))
theorem mthF5 {P : Params} {x : Str} {pn b sp : Bool} {lx : Addr} {lg : List (Addr × Obj)} {pv : List Value} {flt : List Nat × S5 × Int} {h₀ h : Heap} {L : Addr} {R : List (Addr × Obj)} (hL : Flt5 P x pn b sp lx lg pv flt) (N : News h₀ L h (lg ++ R)) : Mth h lx := by
  cases pn
  · obtain ⟨kt, T1, ev, fs, io, iod, pc, dx, fn, c, rfl, hrest⟩ := hL
    exact mth_N N (List.mem_append_left _ (.tail _ (.tail _ (.tail _ (.head _))))) (List.mem_append_left _ (.tail _ (.tail _ (.tail _ (.tail _ (.head _))))))
  · obtain ⟨kt, T1, k19, ev, pb, fs, io, iod, pc, dx, pk, fn, c, rfl, hrest⟩ := hL
    exact mth_P N (List.mem_append_left _ (.tail _ (.tail _ (.tail _ (.head _))))) (List.mem_append_left _ (.tail _ (.tail _ (.tail _ (.tail _ (.head _))))))
section
variable {w : World} {A : Around} {E : Value → Shared → Prop} {s : Shared} {h₀ : Heap} {L lx f : Addr} {m : Str → Option Value} {K : Frag} {name : Str} {pl : Sem Bool} {Q : Value × List Value → Shared → Prop}
theorem get_meth (F : Fr h₀ L s.heap m) (X₀ : K.In h₀) (hM : Mth s.heap lx) (hg : plainGet K 722 name = true) (hf : findIn K (.ref 722) name = some (some (.ref f))) (ht : isFn K (.ref f) = true)
    (hn : name = Str.ofString "get_token" ∨ name = Str.ofString "push_token" ∨ name = Str.ofString "read_token") (h : Q (.ref f, [.ref lx]) s) : wpAny (model prog w) A (getMethod (.ref lx) name pl) Q E s := by
  obtain ⟨ox, es, n, I, g1, g2, g3⟩ := hM
  refine method_inst F X₀ I hg hf ht ?_ h
  rcases hn with rfl | rfl | rfl
  · exact g1
  · exact g2
  · exact g3
end
end Mine
namespace Mine
theorem news_as2 {g h : Heap} {L : Addr} {A o : List (Addr × Obj)} {a b : Addr × Obj} (N : News g L h ((a :: (A ++ [b])) ++ o)) : News g L h (A ++ (b :: a :: o)) := by
  intro p hp
  refine N p ?_
  simp only [List.mem_append, List.mem_cons, List.not_mem_nil, or_false] at hp ⊢
  rcases hp with h | h | h | h <;> simp [h]
theorem ap_l5 {lg lg1 : List (Addr × Obj)} {l : Addr} {b : Addr × Obj} {ob : Obj} (h : ∀ p ∈ lg1 ++ [b], @LT.lt Nat _ p.1 l) (hs : Same5 lg1 lg) : Ap5 lg [(l, ob)] := by
  intro q hq p hp
  rw [List.mem_singleton.mp hp]
  have : q.1 ∈ lg.map (·.1) := List.mem_map.mpr ⟨q, hq, rfl⟩
  rw [hs] at this
  obtain ⟨q', hq', e⟩ := List.mem_map.mp this
  rw [← e]
  exact Nat.ne_of_gt (h q' (List.mem_append_left _ hq'))
theorem ap_own2 {lg lg0 R own : List (Addr × Obj)} {a : Addr × Obj} (h : OwnOff own ((a :: (lg0 ++ R)).map (·.1))) (hs : Same5 lg0 lg) : Ap5 lg own :=
  ap_own (R := R) (fun p hp b hb => h p hp b (.tail _ hb)) hs
theorem msg_ok (st : S5) : PyData.strOk (msgP st) = true := by
  have a : PyData.strOk (Str.ofString "No escaped character") = true := by decide +kernel
  have b : PyData.strOk (Str.ofString "No closing quotation") = true := by decide +kernel
  cases st <;> first | exact a | exact b
theorem held_ok {k q : Nat} {st inn : List Nat} (hq : isM q) (hs : ∀ c ∈ st, B5 c) (hi : ∀ c ∈ inn, c < 1114112) : PyData.strOk (S (held5 k q st inn)) = true := by
  refine strOk_S fun c hc => ?_
  unfold held5 at hc
  split at hc
  · rcases List.mem_cons.mp hc with rfl | hc
    · rcases hq with rfl | rfl <;> decide
    · exact hi c hc
  · rcases List.mem_append.mp hc with hc | hc
    · have := hs c hc
      unfold B5 at this
      simp only [List.mem_cons, List.not_mem_nil, or_false] at this
      omega
    · exact hi c hc
theorem st_ok {k q : Nat} (hq : isM q) : PyData.strOk (S [st5 k q]) = true := by
  refine strOk_S fun c hc => ?_
  rw [List.mem_singleton.mp hc]
  unfold st5
  split
  · rcases hq with rfl | rfl <;> decide
  · decide
theorem way_of {pre post : List Int} {n : Int} (h : [0, 1, 2, 0] = pre ++ n :: post) : n = 0 ∨ n = 1 ∨ n = 2 := by
  have : n ∈ ([0, 1, 2, 0] : List Int) := by rw [h]; simp
  simp only [List.mem_cons, List.not_mem_nil, or_false] at this
  rcases this with h | h | h | h
  · exact .inl h
  · exact .inr (.inl h)
  · exact .inr (.inr h)
  · exact .inl h
end Mine
namespace Mine
theorem ndx5 {a b c d e f : Addr} (o1 : @LT.lt Nat _ a b) (o2 : @LT.lt Nat _ b c) (o3 : @LT.lt Nat _ c d) (o4 : @LT.lt Nat _ d e) (o5 : @LT.lt Nat _ e f) : @Ne Nat a b ∧ @Ne Nat a c ∧ @Ne Nat a d ∧ @Ne Nat a e ∧ @Ne Nat a f := by
  have a2 := Nat.lt_trans o1 o2
  have a3 := Nat.lt_trans a2 o3
  have a4 := Nat.lt_trans a3 o4
  have a5 := Nat.lt_trans a4 o5
  refine ⟨?_, ?_, ?_, ?_, ?_⟩ <;> (apply Nat.ne_of_lt; assumption)
theorem ndx6 {a b c d e f g : Addr} (o1 : @LT.lt Nat _ a b) (o2 : @LT.lt Nat _ b c) (o3 : @LT.lt Nat _ c d) (o4 : @LT.lt Nat _ d e) (o5 : @LT.lt Nat _ e f) (o6 : @LT.lt Nat _ f g) : @Ne Nat a b ∧ @Ne Nat a c ∧ @Ne Nat a d ∧ @Ne Nat a e ∧ @Ne Nat a f ∧ @Ne Nat a g := by
  obtain ⟨h1, h2, h3, h4, h5⟩ := ndx5 o1 o2 o3 o4 o5
  exact ⟨h1, h2, h3, h4, h5, Nat.ne_of_lt (Nat.lt_trans o1 (Nat.lt_trans o2 (Nat.lt_trans o3 (Nat.lt_trans o4 (Nat.lt_trans o5 o6)))))⟩
end Mine
namespace Mine
theorem la {a b : List Nat} {n m : Nat} (h1 : a.length ≤ n) (h2 : b.length ≤ m) : (a ++ b).length ≤ n + m := by rw [List.length_append]; exact Nat.add_le_add h1 h2
theorem lz2 {a b : List Nat} {n m k : Nat} (h : a.length ≤ n) (h2 : b.length ≤ m) (e : Nat.ble (n + m) k = true) : a.length + b.length ≤ k := Nat.le_trans (Nat.add_le_add h h2) (Nat.le_of_ble_eq_true e)
theorem l0 : ([] : List Nat).length ≤ 0 := Nat.le_refl _
theorem l1 {c : Nat} : [c].length ≤ 1 := Nat.le_refl _
theorem l2 {c d : Nat} : [c, d].length ≤ 2 := Nat.le_refl _
theorem tl_len (k : Nat) : (tl5 k).length ≤ 2 := by unfold tl5; split <;> simp
theorem s_len {x : List Nat} {n m : Nat} (h : x.length ≤ n) (e : Nat.ble n m = true) : (S x).length ≤ m := by rw [S_length']; exact lz h e
theorem len360 {a b c : Nat} (l : List Int) (h : a + b + c ≤ 9 * l.length) (h2 : l.length ≤ 40) : a ≤ 360 ∧ b ≤ 360 ∧ c ≤ 360 ∧ a + b + c ≤ 360 := by omega
theorem ck {k a : Nat} (h : (k : Int) = (a : Int)) : k = a := Int.ofNat.inj h
theorem kx {k a b : Nat} (h : (k : Int) = (a : Int)) (e : Nat.beq a b = false) : ¬ k = b := fun h2 => Nat.ne_of_beq_eq_false e ((ck h).symm.trans h2)
theorem k_pos {k : Nat} (h : ¬ (0 : Int) < (k : Int)) : ¬ 0 < k := by omega
theorem k_ne0 {k : Nat} {p : Prop} (h : ¬ (k : Int) = 0) (e : k = 0) : p := absurd (congrArg Nat.cast e) h
theorem k_ne0' {k : Nat} (h : ¬ (k : Int) = 0) : ¬ k = 0 := k_ne0 h
theorem k_lt2 {k : Nat} (h : (k : Int) < 2) : k < 2 := by omega
theorem k_ge2 {k : Nat} (h : ¬ (k : Int) < 2) : ¬ k < 2 := by omega
theorem k_dec {k : Nat} : decide (0 < (k : Int)) = decide (0 < k) := by simp
theorem g_a {hd st : List Nat} {c : Nat} (h : hd.length + st.length + c ≤ 360) : (hd ++ [32] ++ st).length + ([] : List Nat).length ≤ 400 := by
  simp only [List.length_append, List.length_cons, List.length_nil]; omega
theorem g_b {a b c : Nat} (h : a + b + c ≤ 360) : a + b ≤ 400 := by omega
theorem g_c {a b c : Nat} (h : a + b ≤ 400) (h2 : c ≤ 360) : a + b + c ≤ 1000 := by omega
theorem tup_ne5 {w : World} {A : Around} {E : Value → Shared → Prop} {s : Shared} {Q : Value → Shared → Prop} {g : Heap} {L d p : Addr} {news : List (Addr × Obj)} {k q : Nat} {st inn : List Nat} {n : Int} {t1 t2 t3 t4 u1 u2 u3 : Tok} {sv : Value} {OD : Obj} {FL : List Nat × S5 × Int}
  (hOD : ({ cls := .type "tuple", data := .seq #[.str (msgP (fs5 k q)) t1, .str (S [st5 k q]) t2, .str (S (held5 k q st inn)) t3, .int n t4] } : Obj) = OD) (hFL : (held5 k q st inn, fs5 k q, n) = FL) (hsv : SV5 FL.2.1 sv)
  (N : News g L s.heap news) (hp : (p, { cls := .type "tuple", data := .seq #[.str (msgP FL.2.1) u1, sv, .str (S FL.1) u2, .int FL.2.2 u3] }) ∈ news) (hd : (d, OD) ∈ news)
    (hb : PyData.strOk (S [st5 k q]) = true) (hc : PyData.strOk (S (held5 k q st inn)) = true) (hu : A.units + 64 < cLine) (h : Q (.bool false) s) : wpAny (model prog w) A (compareOp .NotEq (.ref p) (.ref d)) Q E s := by
  subst hOD hFL
  obtain ⟨vs, rfl⟩ := sv_st hsv
  exact tup_ne N hp hd (msg_ok _) hb hc hu h
end Mine

end
section
local macro_rules | `(tactic| walk_at "getMethod ref") => `(tactic| (k_here; k_dflt (refine' Mine.get_meth (by k_asm) (by k_asm) (by k_asm) (by k_is) (by k_is) (by k_is) (by first | exact Or.inl rfl | exact Or.inr (Or.inl rfl) | exact Or.inr (Or.inr rfl)) ?_; k_whole)))
section
namespace Mine
theorem lxm5 {P : Params} {x : Str} {pn b sp : Bool} {lx : Addr} {lg : List (Addr × Obj)} {pv : List Value} {toks : List (List Nat)} {flt : List Nat × S5 × Int} (hL : Lex5 P x pn b sp lx lg pv toks flt) : ∃ dx es n, (lx, instObj 722 dx) ∈ lg ∧ (dx, dictOf es n) ∈ lg := by
  cases pn
  · obtain ⟨kt, T1, ev, fs, io, iod, pc, dx, fn, c, st, ov, ts0, l, rfl, hrest⟩ := hL
    exact ⟨dx, _, _, (.tail _ (.tail _ (.tail _ (.head _)))), (.tail _ (.tail _ (.tail _ (.tail _ (.head _)))))⟩
  · obtain ⟨kt, T1, k19, ev, pb, fs, io, iod, pc, dx, pk, fn, c, st, pq, l, rfl, hrest⟩ := hL
    exact ⟨dx, _, _, (.tail _ (.tail _ (.tail _ (.head _)))), (.tail _ (.tail _ (.tail _ (.tail _ (.head _)))))⟩
theorem inst5 {P : Params} {x : Str} {pn b sp : Bool} {lx : Addr} {lg : List (Addr × Obj)} {pv : List Value} {toks : List (List Nat)} {flt : List Nat × S5 × Int} {h₀ h : Heap} {L : Addr} {R : List (Addr × Obj)} (hL : Lex5 P x pn b sp lx lg pv toks flt) (N : News h₀ L h (lg ++ R)) : ∃ ox od, InstAt h lx ox 722 od := by
  obtain ⟨dx, es, n, h1, h2⟩ := lxm5 hL
  exact ⟨_, some _, InstAt.of_news N (List.mem_append_left _ h1) (List.mem_append_left _ h2)⟩
theorem flt5_at {P : Params} {x : Str} {pn b sp : Bool} {lx : Addr} {lg : List (Addr × Obj)} {flt : List Nat × S5 × Int} (h : Flt5 P x pn b sp lx lg [] flt) :
    ∃ dx T ev cm wc pu pb fs io f y ty ln tl tok tt ex, (lx, instObj 722 dx) ∈ lg ∧ (dx, lexG P T b sp ev cm wc pu pb fs io f (.str y ty) ln tl tok tt ex) ∈ lg ∧ SV5 flt.2.1 (.str y ty) ∧ tok = S flt.1 ∧ ln = flt.2.2 := by
  cases pn
  · obtain ⟨kt, T1, ev, fs, io, iod, pc, dx, fn, ⟨sv, ln, tl, tok, tt, pos, tp, pcv, pcn, q⟩, rfl, hev, g1, g2, g3, g4, g5, a1, a2, a3, a4, a5, a6, a7, a8⟩ := h
    dsimp only at a1 a2 a3 a4 a5
    obtain ⟨y, ty, rfl⟩ := sv5_str a1 a7
    exact ⟨_, _, _, _, _, _, _, _, _, _, y, ty, ln, tl, tok, tt, [], (.tail _ (.tail _ (.tail _ (.head _)))), (.tail _ (.tail _ (.tail _ (.tail _ (.head _))))), a1, by assumption, by assumption⟩
  · obtain ⟨kt, T1, k19, ev, pb, fs, io, iod, pc, dx, pk, fn, ⟨sv, ln, tl, tok, tt, pos, tp, pcv, pcn, q⟩, rfl, hev, g1, g2, g3, g4, g5, g6, a1, a2, a3, a4, a5, a6, a7, a8⟩ := h
    dsimp only at a1 a2 a3 a4 a5
    obtain ⟨y, ty, rfl⟩ := sv5_str a1 a7
    exact ⟨_, _, _, _, _, _, _, _, _, _, y, ty, ln, tl, tok, tt, [_], (.tail _ (.tail _ (.tail _ (.head _)))), (.tail _ (.tail _ (.tail _ (.tail _ (.head _))))), a1, by assumption, by assumption⟩
theorem raised_sub {base G h : Heap} {l : List Env} {e t : Addr} {cls : Value} {vs : List Value} {n1 n2 : List (Addr × Obj)} (R : RaisedS base G l e cls t vs n1 h) (hs : ∀ p ∈ n2, p ∈ n1) : RaisedS base G l e cls t vs n2 h := by
  obtain ⟨⟨B, hB, hk, hl, hfl, hnew⟩, htup⟩ := R
  exact ⟨⟨B, hB, hk, fun q hq => hl q (hs q hq), hfl, hnew⟩, htup⟩
theorem news_sub6 {h₀ h : Heap} {L : Addr} {a b c : Addr × Obj} {A R R' : List (Addr × Obj)} (N : News h₀ L h (a :: b :: c :: (A ++ R'))) (hs : ∀ p ∈ R, p ∈ R') : News h₀ L h (a :: (A ++ R)) := by
  intro p hp
  rcases List.mem_cons.mp hp with rfl | hp
  · exact N _ (.head _)
  · refine N _ (.tail _ (.tail _ (.tail _ ?_)))
    rcases List.mem_append.mp hp with h | h
    · exact List.mem_append_left _ h
    · exact List.mem_append_right _ (hs _ h)
theorem more2 {a b : Addr × Obj} {l : List (Addr × Obj)} (ha : a ∈ l) (hb : b ∈ l) : ∀ p ∈ a :: b :: l, p ∈ l := by
  intro p hp
  rcases List.mem_cons.mp hp with rfl | hp
  · exact ha
  · rcases List.mem_cons.mp hp with rfl | hp
    · exact hb
    · exact hp
section
variable {w : World} {A₀ : Around} {base h₀ : Heap} {outer : List Env} {L : Addr} {m mg mb : Str → Option Value} {loose : List Str} {mean : ExcName → Option Value} {s : Shared} {Q E : Value → Shared → Prop} {p : Program}
  {hdl : Option Value} {d u : Nat} {gs : Option (List Code)} {rest : List (Addr × Obj)} {ns : List (Str × NameKind)} {ig ic : Bool} {mo : List (Str × Const)} {gl bi : Addr} {cs : List (Str × Addr)} {qn : Str} {fo : Option Addr} {cdv : Value}
theorem flt5_gt {x : Str} {pn b sp : Bool} {lx : Addr} {lg : List (Addr × Obj)} {flt : List Nat × S5 × Int}
  (B : Below A₀ base outer h₀) (F : Fr h₀ L s.heap m) (X : (hd.heap_1 w.params).In h₀) (T : Top p loose mean mg mb h₀) (hdp : d < 800) (hun : u < 8000)
  (hx : x.length ≤ 40000) (hL : Lex5 w.params x pn b sp lx lg [] [] flt) (hap : Ap5 lg rest) (N : News h₀ L s.heap (lg ++ rest))
  (hE : ∀ h' e t g' lg' k tv, RaisedS base g' (fenv ns ig ic mo gl cs qn fo cdv bi L :: outer) e (.type "ValueError") t [.str (msgP flt.2.1) tv] (lg' ++ rest) h' → Fr h₀ L g' m → g'.UpToSlots h' → Flt5 w.params x pn b sp lx lg' [] flt → Same5 lg lg' → E (.ref e) { s with heap := h', toks := k })
  : wpAny (model prog w) (ar none d (fenv ns ig ic mo gl cs qn fo cdv bi L :: outer) gs u) (call (.ref 683) [.ref lx]) Q E s := by
  cases pn
  · exact fltN_gt B F X T hdp hun hx hL hap N hE
  · exact fltP_gt B F X T hdp hun hx hL hap N hE
theorem flt5_rt {x : Str} {pn b sp : Bool} {lx : Addr} {lg : List (Addr × Obj)} {flt : List Nat × S5 × Int}
  (B : Below A₀ base outer h₀) (F : Fr h₀ L s.heap m) (X : (hd.heap_1 w.params).In h₀) (T : Top p loose mean mg mb h₀) (hdp : d < 800) (hun : u < 8000)
  (hx : x.length ≤ 40000) (hL : Lex5 w.params x pn b sp lx lg [] [] flt) (hap : Ap5 lg rest) (N : News h₀ L s.heap (lg ++ rest))
  (hE : ∀ h' e t g' lg' k tv, RaisedS base g' (fenv ns ig ic mo gl cs qn fo cdv bi L :: outer) e (.type "ValueError") t [.str (msgP flt.2.1) tv] (lg' ++ rest) h' → Fr h₀ L g' m → g'.UpToSlots h' → Flt5 w.params x pn b sp lx lg' [] flt → Same5 lg lg' → E (.ref e) { s with heap := h', toks := k })
  : wpAny (model prog w) (ar none d (fenv ns ig ic mo gl cs qn fo cdv bi L :: outer) gs u) (call (.ref 690) [.ref lx]) Q E s := by
  cases pn
  · exact fltN_rt B F X T hdp hun hx hL hap N hE
  · exact fltP_rt B F X T hdp hun hx hL hap N hE
theorem nx5 {x : Str} {pn b sp : Bool} {lx : Addr} {lg : List (Addr × Obj)} {flt : List Nat × S5 × Int}
  (B : Below A₀ base outer h₀) (F : Fr h₀ L s.heap m) (X : (hd.heap_1 w.params).In h₀) (T : Top p loose mean mg mb h₀) (hdp : d < 700) (hun : u < 7000)
  (hx : x.length ≤ 40000) (hL : Lex5 w.params x pn b sp lx lg [] [] flt) (hap : Ap5 lg rest) (N : News h₀ L s.heap (lg ++ rest))
  (hE : ∀ h' e t g' lg' k tv, RaisedS base g' (fenv ns ig ic mo gl cs qn fo cdv bi L :: outer) e (.type "ValueError") t [.str (msgP flt.2.1) tv] (lg' ++ rest) h' → Fr h₀ L g' m → g'.UpToSlots h' → Flt5 w.params x pn b sp lx lg' [] flt → Same5 lg lg' → E (.ref e) { s with heap := h', toks := k })
  : wpAny (model prog w) (ar none d (fenv ns ig ic mo gl cs qn fo cdv bi L :: outer) gs u) (call (.ref 719) [.ref lx]) Q E s := by
  refine wpAny_call ?_
  k_enter
  (with_reducible rename News _ _ _ _ => kM)
  have hM := mth5 hL kM
  (repeat' (first | (k_unfold; (try dsimp only)) | ((fail_if_success (with_reducible show wpAny _ _ (call (Value.ref 683) _) _ _ _)); walk1)))
  (with_reducible rename News _ _ _ _ => kN)
  refine' flt5_gt (rest := rest) ?k1 ?k2 ?k3 ?k4 ?k5 ?k6 hx hL hap ?k22 ?_
  case k22 => exact kN
  case k1 => with_reducible assumption
  case k2 => with_reducible assumption
  case k3 => with_reducible assumption
  case k4 => with_reducible assumption
  case k5 => k_room
  case k6 => k_units
  clear kN
  intro h' e t g' lg' k tv S' FG' U' hF' hS'
  (try dsimp only)
  k_steps
  exact hE _ _ _ _ lg' _ tv (by assumption) (by assumption) (by assumption) hF' hS'
def PE5 (w : World) (x : Str) (pn b sp : Bool) (lx : Addr) (lg : List (Addr × Obj)) (flt : List Nat × S5 × Int) (base : Heap) (l : List Env) (g : Heap) (L : Addr) (m : Str → Option Value) (s : Shared) (rest : List (Addr × Obj)) (e : Value) (s' : Shared) : Prop :=
  ∃ h' ea t g' lg' k tv rest', e = .ref ea ∧ s' = { s with heap := h', toks := k } ∧ RaisedS base g' l ea (.type "ValueError") t [.str (msgP flt.2.1) tv] (lg' ++ rest') h' ∧ Fr g L g' m ∧ g'.UpToSlots h' ∧ Flt5 w.params x pn b sp lx lg' [] flt ∧ Same5 lg lg' ∧ (∀ p ∈ rest, p ∈ rest')
theorem eo5 {M : Model} {A : Around} {st : Stmt} {env : Env} {Q : Flow → Shared → Prop} {E : Value → Shared → Prop} {s s0 : Shared} {g h : Heap} {L : Addr} {m : Str → Option Value} (w : World) (x : Str) (pn b sp : Bool) (lx : Addr) (lg : List (Addr × Obj)) (flt : List Nat × S5 × Int) (base : Heap) (outer : List Env) (rest : List (Addr × Obj)) (_ : Fr g L h m)
    (hE : ∀ e s', PE5 w x pn b sp lx lg flt base (env :: outer) g L m s rest e s' → E e s')
    (h : ∀ E' : Value → Shared → Prop, (∀ e s', PE5 w x pn b sp lx lg flt base (env :: outer) g L m s rest e s' → E' e s') → wpAny M A (exec st env) Q E' s0) : wpAny M A (exec st env) Q E s0 := h E hE
theorem ls5 {x : Str} {pn b sp : Bool} {lx : Addr} {lg : List (Addr × Obj)} {flt : List Nat × S5 × Int}
  (B : Below A₀ base outer h₀) (F : Fr h₀ L s.heap m) (X : (hd.heap_1 w.params).In h₀) (T : Top p loose mean mg mb h₀) (hdp : d < 690) (hun : u < 6900)
  (hx : x.length ≤ 40000) (hL : Lex5 w.params x pn b sp lx lg [] [] flt) (hap : Ap5 lg rest) (N : News h₀ L s.heap (lg ++ rest))
  (hE : ∀ h' e t g' lg' k tv rest', RaisedS base g' (fenv ns ig ic mo gl cs qn fo cdv bi L :: outer) e (.type "ValueError") t [.str (msgP flt.2.1) tv] (lg' ++ rest') h' → Fr h₀ L g' m → g'.UpToSlots h' → Flt5 w.params x pn b sp lx lg' [] flt → Same5 lg lg' → (∀ p ∈ rest, p ∈ rest') → E (.ref e) { s with heap := h', toks := k })
  : wpAny (model prog w) (ar none d (fenv ns ig ic mo gl cs qn fo cdv bi L :: outer) gs u) (call (.type "list") [.ref lx]) Q E s := by
  have hs1 : findIn (hd.heap_1 w.params) (.ref 722) "__iter__" = some (some (.ref 712)) := by k_is
  have hs2 : findIn (hd.heap_1 w.params) (.ref 722) "__next__" = some (some (.ref 719)) := by k_is
  have hf1 : isFn (hd.heap_1 w.params) (.ref 712) = true := by k_is
  have hf2 : isFn (hd.heap_1 w.params) (.ref 719) = true := by k_is
  obtain ⟨dx0, es0, n0, hox, _⟩ := lxm5 hL
  refine own_listE (C := 722) X F N (by k_is) (by k_is) (List.mem_append_left _ hox) (fun h N' => inst5 hL N') ?_ ?_
  · intro S h tk Q' E' hS F' N' hQ'
    have ⟨ox', od', I'⟩ := inst5 hL (fun p hp => N' p (.tail _ hp))
    refine owit_iter F' X I' hs1 hf1 ?_
    refine it5 B F' X T (by k_room) (by k_units) N' fun h'' k'' F'' N'' => ?_
    have ⟨ox'', od'', I''⟩ := inst5 hL (fun p hp => N'' p (.tail _ hp))
    exact owit_it F'' X I'' hs2 (hQ' h'' k'' F'' N'')
  · intro S h' tk k' R hlt F' N' hR hRE
    have ⟨ox', od', I'⟩ := inst5 hL (fun p hp => N' p (.tail _ hp))
    refine codeAny_builtin PySem.F.entry_extend_loop ?_
    rw [Around.under_plainId PySem.F.plain_extend_loop _]
    show wpAny _ _ (pyNext (.ref lx) >>= _) _ _ _
    refine wpAny_bind ?_
    refine owit_next F' X I' hs2 hf2 ?_
    refine nx5 B F' X T (by k_room) (by k_units) hx hL (rest := (S, listOf #[] k') :: rest) ?_ (news_mv N') ?_
    · intro q hq p hp
      rcases List.mem_cons.mp hp with rfl | hp
      · exact Nat.ne_of_gt (hlt q (List.mem_append_left _ hq))
      · exact hap q hq p hp
    · intro h2 e t g' lg' k tv S' FG' U' hF' hS'
      exact own_raise S' val_stop (hRE _ _ (hE h2 e t g' lg' k tv _ S' FG' U' hF' hS' fun p hp => .tail _ hp))
theorem refused5 {x : Str} {pn b sp : Bool} {lx : Addr} {lg : List (Addr × Obj)} {flt : List Nat × S5 × Int} {n : Int} {tw : Tok} {cn9 : Str} {cs9 : Scope} {af9 : Addr} {cd9 : Value} (hck : cs9.kind = .function)
  (B : Below A₀ h₀ [] h₀) (F : Fr h₀ L s.heap m) (X : (hd.heap_1 w.params).In h₀) (T : Top p loose mean mg mb h₀) (hdp : d < 600) (hun : u < 6000)
  (hx : x.length ≤ 40000) (hL : Lex5 w.params x pn b sp lx lg [] [] flt) (hap : Ap5 lg rest) (N : News h₀ L s.heap (lg ++ rest)) (hn : n = 0 ∨ n = 1 ∨ n = 2)
  (hQ : ∀ h' q lg' sv t1 t2 t3 k, Fr h₀ L h' m → News h₀ L h' ((q, { cls := .type "tuple", data := .seq #[.str (msgP flt.2.1) t1, sv, .str (S flt.1) t2, .int flt.2.2 t3] }) :: (lg' ++ rest)) → Flt5 w.params x pn b sp lx lg' [] flt → Same5 lg lg' → SV5 flt.2.1 sv → Q (.ref q) { s with heap := h', toks := k })
  : wpAny (model prog w) (ar none d (envOf cn9 cs9 L af9 cd9 :: []) gs u) (call (.ref 747) [.ref lx, .int n tw]) Q E s := by
  refine wpAny_call ?_
  (refine' code_defS0 ?k1 ?k2 ?k3 ?k4 ?k5 ?kA ?k6 ?k7 ?k8 ?k9 ?kB ?_ ?cK ?c2 ?c3 ?c4 ?c5; (case kA => exact rfl); (case k2 => k_asm); (case k1 => k_asm); (case k3 => k_asm); (case k4 => k_asm); (case k5 => k_asm); (case k6 => k_is); (case k7 => k_is); (case k8 => k_room); (case k9 => first | exact binds_K (by k_in) rfl (by k_is) rfl rfl rfl | exact BindsTo.of_eq rfl); (case kB => exact locs rfl); (case cK => exact hck); (case c2 => exact rfl); (case c3 => exact rfl); (case c4 => exact rfl); (case c5 => decide); k_whole; intro gg LL hh FG9 F9 N9 B9 X9 T9 D9; (try dsimp only); (try k_lift B9); (try k_fold))
  have hM := mth5 hL N9
  (repeat' (first | (k_unfold; (try dsimp only)) | ((fail_if_success (with_reducible show wpAny _ _ (exec (Stmt.If _ _ _ _) _) _ _ _)); walk1)))
  refine eo5 (s := s) w x pn b sp lx lg flt h₀ [envOf cn9 cs9 L af9 cd9] rest F9 ?_ ?_
  · rintro _ _ ⟨h', e, t, g', lg', k, tv, rest', rfl, rfl, S', FG', U', hF', hS', hsub⟩
    clear N9 F9 N
    (try dsimp only)
    obtain ⟨dx, T1, ev, cm, wc, pu, pb, fs, io, f, y, ty, ln, tl, tok, tt, ex, hm1, hm2, a1, e1, e2⟩ := flt5_at hF'
    subst e1 e2
    have S2 := raised_sub S' (more2 (List.mem_append_left _ hm1) (List.mem_append_left _ hm2))
    clear S'
    k_steps
    rename News h₀ L _ _ => kN9
    rename Fr h₀ L _ m => kF9
    refine' hQ _ _ _ _ _ _ _ _ kF9 ?hn9 hF' hS' a1
    case hn9 =>
      refine' news_sub6 (R' := rest') ?hn8 hsub
      case hn8 => exact kN9
  · intro E' hE'
    rcases hn with rfl | rfl | rfl
    · (repeat' (first | (k_unfold; (try dsimp only)) | ((fail_if_success (with_reducible show wpAny _ _ (call (Value.ref 683) _) _ _ _)); walk1)))
      (with_reducible rename News _ _ _ _ => kN)
      refine' flt5_gt (rest := rest) ?k1 ?k2 ?k3 ?k4 ?k5 ?k6 hx hL hap ?k22 ?_
      case k22 => exact kN
      case k1 => with_reducible assumption
      case k2 => with_reducible assumption
      case k3 => with_reducible assumption
      case k4 => with_reducible assumption
      case k5 => k_room
      case k6 => k_units
      intro h' e t g' lg' k tv S' FG' U' hF' hS'
      exact hE' _ _ ⟨h', e, t, g', lg', k, tv, rest, rfl, rfl, S', FG', U', hF', hS', fun p hp => hp⟩
    · (repeat' (first | (k_unfold; (try dsimp only)) | ((fail_if_success (with_reducible show wpAny _ _ (call (Value.ref 690) _) _ _ _)); walk1)))
      (with_reducible rename News _ _ _ _ => kN)
      refine' flt5_rt (rest := rest) ?j1 ?j2 ?j3 ?j4 ?j5 ?j6 hx hL hap ?j22 ?_
      case j22 => exact kN
      case j1 => with_reducible assumption
      case j2 => with_reducible assumption
      case j3 => with_reducible assumption
      case j4 => with_reducible assumption
      case j5 => k_room
      case j6 => k_units
      intro h' e t g' lg' k tv S' FG' U' hF' hS'
      exact hE' _ _ ⟨h', e, t, g', lg', k, tv, rest, rfl, rfl, S', FG', U', hF', hS', fun p hp => hp⟩
    · (repeat' (first | (k_unfold; (try dsimp only)) | ((fail_if_success (with_reducible show wpAny _ _ (call (Value.type "list") _) _ _ _)); walk1)))
      (with_reducible rename News _ _ _ _ => kN)
      refine' ls5 (rest := rest) ?i1 ?i2 ?i3 ?i4 ?i5 ?i6 hx hL hap ?i22 ?_
      case i22 => exact kN
      case i1 => with_reducible assumption
      case i2 => with_reducible assumption
      case i3 => with_reducible assumption
      case i4 => with_reducible assumption
      case i5 => k_room
      case i6 => k_units
      intro h' e t g' lg' k tv rest' S' FG' U' hF' hS' hsub
      exact hE' _ _ ⟨h', e, t, g', lg', k, tv, rest', rfl, rfl, S', FG', U', hF', hS', hsub⟩
end
end Mine

end
local macro_rules | `(tactic| walk_at "compareOp Eq str str") => `(tactic| (k_here; (with_reducible show wpAny _ _ (compareOp CmpOp.Eq (Value.str (Mine.S [_]) _) (Value.str (Str.ofString "\"") _)) _ _ _); (with_reducible refine' Mine.eq_dq ?e ?_); (case e => with_reducible assumption); k_whole))
local macro_rules | `(tactic| walk_at "len") => `(tactic| first | with_reducible assumption | exact Mine.l1 | exact Mine.l0 | exact Mine.l2 | exact Mine.la (by walk_at "len") (by walk_at "len"))
local macro_rules | `(tactic| walk_at "slit") => `(tactic| first | exact Mine.sp_S | exact Mine.S_nil | exact Mine.bs_S | exact Mine.qb_S)
local macro_rules | `(tactic| walk_at "binaryOp Add str str") => `(tactic| (k_here; (first | with_reducible refine' Mine.add_SS ?l ?_ | with_reducible refine' Mine.add_lit (by walk_at "slit") ?l ?_); (case l => exact Mine.lz2 (by walk_at "len") (by walk_at "len") (by rfl)); intro t' k'; (try dsimp only)))
local macro_rules | `(tactic| walk_at "exec For Name Call cons nil") => `(tactic| (k_here; (rename Fr _ _ _ _ => lF'); (with_reducible refine For_invVF lF' ?k1 ?k2 ?_ ?k3 ?k4); (case k1 => exact rfl); (case k2 => exact rfl); (case k3 => exact fun _ => rfl); (case k4 => passes_own); k_whole))
local macro_rules | `(tactic| walk_at "exec For Name List cons nil") => `(tactic| (k_here; (rename Fr _ _ _ _ => lF'); (with_reducible refine For_invVF lF' ?k1 ?k2 ?_ ?k3 ?k4); (case k1 => exact rfl); (case k2 => exact rfl); (case k3 => exact fun _ => rfl); (case k4 => passes_own); k_whole))
namespace Mine
theorem free {goal_ : Prop} (a b c d e f g h i j k l m n o q r s t u v w x y z A B C D E F G H I J K L M N O P Q R S T U V W X Y Z e1 e2 e3 e4 e5 e6 e7 e8 e9 e10 k1 k2 k3 k4 k5 k6 k7 k8 k9 k10 k11 k12 k13 k14 k15 h1 h2 h3 h4 h5 h6 hr hp hi hv hz sz sub hQ hE hP hC hx ka kb : True) (rest_ : goal_) : goal_ := rest_
end Mine
theorem Mine.law_all.tw1861297953188256277 : True := trivial
theorem Mine.law_all.tw808926787595212315 : True := trivial
theorem Mine.law_all.tw14548401533875796570 : True := trivial
theorem Mine.law_all.tw2103784332974290115 : True := trivial
theorem Mine.law_all.tw11645036861229193933 : True := trivial
theorem Mine.law_all.tw12384212371979683370 : True := trivial
theorem Mine.law_all.tw12272814491482326452 : True := trivial
theorem Mine.law_all.tw9326504959393919199 : True := trivial
theorem Mine.law_all.tw6478741611622195713 : True := trivial
theorem Mine.law_all.tw17264329242000108839 : True := trivial
theorem Mine.law_all.tw17240311926567722313 : True := trivial
theorem Mine.law_all.tw15888606964102597316 : True := trivial
theorem Mine.law_all.tw5214331894307755913 : True := trivial
theorem Mine.law_all.tw6355135678535457092 : True := trivial
theorem Mine.law_all.tw12018720973117135595 : True := trivial
theorem Mine.law_all.tw4354770290612424148 : True := trivial
theorem Mine.law_all.tw6541656116107318362 : True := trivial
theorem Mine.law_all.tw13833317127055801060 : True := trivial
theorem Mine.law_all.tw9135970852051700672 : True := trivial
theorem Mine.law_all.tw2539981353633615827 : True := trivial
theorem Mine.law_all.tw7271922334478322552 : True := trivial
theorem Mine.law_all.tw1605926451748883982 : True := trivial
theorem Mine.law_all.tw7406990479455149028 : True := trivial
theorem Mine.law_all.tw12729013581757030507 : True := trivial
theorem Mine.law_all.tw11604076886869528917 : True := trivial
theorem Mine.law_all.tw15997375701291725471 : True := trivial
theorem Mine.law_all.tw17711649757482097080 : True := trivial
theorem Mine.law_all.tw3983192056104361193 : True := trivial
theorem Mine.law_all.tw13253971527945154862 : True := trivial
theorem Mine.law_all.tw9642360315720231220 : True := trivial
theorem Mine.law_all.tw13274840464982359763 : True := trivial
theorem Mine.law_all.tw15327138436386969399 : True := trivial
theorem Mine.law_all.tw15807664475251556305 : True := trivial
theorem Mine.law_all.tw14024095959683317476 : True := trivial
theorem Mine.law_all.tw12829037096407747505 : True := trivial
theorem Mine.law_all.tw7318158564511299729 : True := trivial
theorem Mine.law_all.tw4481082551865045004 : True := trivial
theorem Mine.law_all.tw17074971947010181610 : True := trivial
theorem Mine.law_all.tw10623982647197800651 : True := trivial
theorem Mine.law_all.tw10253732280001569212 : True := trivial
theorem Mine.law_all.tw15515702583689602614 : True := trivial
theorem Mine.law_all.tw16348121039232670680 : True := trivial
theorem Mine.law_all.tw12308792829718365582 : True := trivial
theorem Mine.law_all.tw1938755509981744232 : True := trivial
theorem Mine.law_all.tw14640322939972922974 : True := trivial
theorem Mine.law_all.tw8847300426190641854 : True := trivial
theorem Mine.law_all.tw15414137240233699022 : True := trivial
theorem Mine.law_all.tw15638214500589831823 : True := trivial
theorem Mine.law_all.tw16651006203443513197 : True := trivial
theorem Mine.law_all.tw6814774676840398217 : True := trivial
theorem Mine.law_all.tw10090999975856555344 : True := trivial
theorem Mine.law_all.tw8292125754366032315 : True := trivial
theorem Mine.law_all.tw5774103589672948085 : True := trivial
theorem Mine.law_all.tw14955915058466119356 : True := trivial
theorem Mine.law_all.tw2271960705470518616 : True := trivial
theorem Mine.law_all.tw978204252779252794 : True := trivial
theorem Mine.law_all.tw2126261026752179203 : True := trivial
theorem Mine.law_all.tw550076807988554015 : True := trivial
theorem Mine.law_all.tw87554848720477697 : True := trivial
theorem Mine.law_all.tw18228451960930216718 : True := trivial
theorem Mine.law_all.tw116477658778600319 : True := trivial
theorem Mine.law_all.tw1672642222964062884 : True := trivial
theorem Mine.law_all.tw15640896081885072018 : True := trivial
theorem Mine.law_all.tw10340441938079615943 : True := trivial
theorem Mine.law_all.tw9441140268209864922 : True := trivial
theorem Mine.law_all.tw8652508824891024273 : True := trivial
theorem Mine.law_all.tw16654605471950451980 : True := trivial
theorem Mine.law_all.tw11020806828292283134 : True := trivial
theorem Mine.law_all.tw4261436866732715612 : True := trivial
theorem Mine.law_all.tw8585119295471724657 : True := trivial
theorem Mine.law_all.tw8426454859378444244 : True := trivial
theorem Mine.law_all.tw8729561690571945798 : True := trivial
theorem Mine.law_all.tw14703302427499458811 : True := trivial
theorem Mine.law_all.tw6325109397354473172 : True := trivial
theorem Mine.law_all.tw11185291794543270386 : True := trivial
theorem Mine.law_all.tw2714459630560403676 : True := trivial
theorem Mine.law_all.tw6442390396111978729 : True := trivial
theorem Mine.law_all.tw9621619661464635597 : True := trivial
theorem Mine.law_all.tw12168520589393599259 : True := trivial
theorem Mine.law_all.tw742109610064614720 : True := trivial
theorem Mine.law_all.tw14967953119522679212 : True := trivial
theorem Mine.law_all.tw2744981985473423791 : True := trivial
theorem Mine.law_all.tw13048455256248648906 : True := trivial
theorem Mine.law_all.tw12308355309068749982 : True := trivial
theorem Mine.law_all.tw2252203913613538044 : True := trivial
theorem Mine.law_all.tw2534205154373081525 : True := trivial
theorem Mine.law_all.tw4710498895635838384 : True := trivial
theorem Mine.law_all.tw7555395380386181586 : True := trivial
theorem Mine.law_all.tw392157893591706145 : True := trivial
theorem Mine.law_all.tw18260159938748754179 : True := trivial
theorem Mine.law_all.tw2454280419872470169 : True := trivial
theorem Mine.law_all.tw12078470571680310831 : True := trivial
theorem Mine.law_all.tw1270322770108976961 : True := trivial
theorem Mine.law_all.tw9144500139776326259 : True := trivial
theorem Mine.law_all.tw144113969167408035 : True := trivial
theorem Mine.law_all.tw12821476480046859578 : True := trivial
theorem Mine.law_all.tw8102590376130340518 : True := trivial
theorem Mine.law_all.tw13444409871249696073 : True := trivial
theorem Mine.law_all.tw2455935472648855358 : True := trivial
theorem Mine.law_all.tw13985060576507940359 : True := trivial
theorem Mine.law_all.tw7791439051762490624 : True := trivial
theorem Mine.law_all.tw2222952681925917930 : True := trivial
theorem Mine.law_all.tw11208032702916000851 : True := trivial
theorem Mine.law_all.tw13809103348235374114 : True := trivial
theorem Mine.law_all.tw1071026390990159442 : True := trivial
theorem Mine.law_all.tw12912951368749151951 : True := trivial
theorem Mine.law_all.tw12338384112835736923 : True := trivial
theorem Mine.law_all.tw16317050728709778059 : True := trivial
theorem Mine.law_all.tw49386822889696764 : True := trivial
theorem Mine.law_all.tw7913414452795691321 : True := trivial
theorem Mine.law_all.tw4182408002180818360 : True := trivial
theorem Mine.law_all.tw404534946110283943 : True := trivial
theorem Mine.law_all.tw11254592457914836137 : True := trivial
theorem Mine.law_all.tw11169120883424520007 : True := trivial
theorem Mine.law_all.tw16731210891918897592 : True := trivial
theorem Mine.law_all.tw14022319627245857414 : True := trivial
theorem Mine.law_all.tw11061263923128422616 : True := trivial
theorem Mine.law_all.tw14225962978905420208 : True := trivial
theorem Mine.law_all.tw3296963836593520940 : True := trivial
theorem Mine.law_all.tw10332199025257759670 : True := trivial
theorem Mine.law_all.tw10842723371336156597 : True := trivial
theorem Mine.law_all.tw13801121007944782333 : True := trivial
theorem Mine.law_all.tw12281828514994423027 : True := trivial
theorem Mine.law_all.tw1766896147755282778 : True := trivial
theorem Mine.law_all.tw569701484050765398 : True := trivial
theorem Mine.law_all.tw5355107437934412706 : True := trivial
theorem Mine.law_all.tw232006020691507172 : True := trivial
theorem Mine.law_all.tw7881162431508693036 : True := trivial
theorem Mine.law_all.tw16844301800673861149 : True := trivial
theorem Mine.law_all.tw11977895914950762854 : True := trivial
theorem Mine.law_all.tw17162081525036864674 : True := trivial
theorem Mine.law_all.tw5881413082840422312 : True := trivial
theorem Mine.law_all.tw17613353281601113540 : True := trivial
theorem Mine.law_all.tw8100261704194928128 : True := trivial
theorem Mine.law_all.tw12332833768631797781 : True := trivial
theorem Mine.law_all.tw4221142147964649119 : True := trivial
theorem Mine.law_all.tw3903515962272563663 : True := trivial
theorem Mine.law_all.tw15111771918000721386 : True := trivial
theorem Mine.law_all.tw5465242347971369183 : True := trivial
theorem Mine.law_all.tw5099097261256123588 : True := trivial
theorem Mine.law_all.tw121348372011856147 : True := trivial
theorem Mine.law_all.tw1376570501437681816 : True := trivial
theorem Mine.law_all.tw7574916185476446870 : True := trivial
theorem Mine.law_all.tw6422183658796698897 : True := trivial
theorem Mine.law_all.tw10517906790627618544 : True := trivial
theorem Mine.law_all.tw14264949915988352486 : True := trivial
theorem Mine.law_all.tw9065303865073120601 : True := trivial
theorem Mine.law_all.tw4638716497167235156 : True := trivial
theorem Mine.law_all.tw2560851641824476598 : True := trivial
theorem Mine.law_all.tw9906353361400467681 : True := trivial
theorem Mine.law_all.tw1126804568260048138 : True := trivial
theorem Mine.law_all.tw5123302808915844946 : True := trivial
theorem Mine.law_all.tw15102585243479572927 : True := trivial
theorem Mine.law_all.tw1819660966834464121 : True := trivial
theorem Mine.law_all.tw13760851721862378156 : True := trivial
theorem Mine.law_all.tw5810238935025566227 : True := trivial
theorem Mine.law_all.tw2289857599661718217 : True := trivial
theorem Mine.law_all.tw6550320685308687620 : True := trivial
theorem Mine.law_all.tw12613626564643572922 : True := trivial
theorem Mine.law_all.tw1213014688269875124 : True := trivial
theorem Mine.law_all.tw9310598725500422130 : True := trivial
theorem Mine.law_all.tw14222145142556662505 : True := trivial
theorem Mine.law_all.tw6974504298890653878 : True := trivial
theorem Mine.law_all.tw1592464377872422232 : True := trivial
theorem Mine.law_all.tw1618355861504449712 : True := trivial
theorem Mine.law_all.tw3826946535189723318 : True := trivial
theorem Mine.law_all.tw15994752243992478524 : True := trivial
theorem Mine.law_all.tw7570389025846386837 : True := trivial
theorem Mine.law_all.tw17135547795266049317 : True := trivial
theorem Mine.law_all.tw11509529326707108785 : True := trivial
theorem Mine.law_all.tw17936130361250110869 : True := trivial
theorem Mine.law_all.tw401616629055616331 : True := trivial
theorem Mine.law_all.tw3813577191599259775 : True := trivial
theorem Mine.law_all.tw2032630373190490227 : True := trivial
theorem Mine.law_all.tw17550541601872772917 : True := trivial
theorem Mine.law_all.tw10754805694788938509 : True := trivial
theorem Mine.law_all.tw941666048300869634 : True := trivial
theorem Mine.law_all.tw2546207491649054136 : True := trivial
theorem Mine.law_all.tw2924670171094740670 : True := trivial
theorem Mine.law_all.tw5542367601281971411 : True := trivial
theorem Mine.law_all.tw7780568949283567224 : True := trivial
theorem Mine.law_all.tw541292884143145059 : True := trivial
theorem Mine.law_all.tw2406078263742745528 : True := trivial
theorem Mine.law_all.tw2795527421740472226 : True := trivial
theorem Mine.law_all.tw15844257298622311405 : True := trivial
theorem Mine.law_all.tw17749092094045793073 : True := trivial
theorem Mine.law_all.tw15586044915557591662 : True := trivial
theorem Mine.law_all.tw10082115955702963577 : True := trivial
theorem Mine.law_all.tw15387212284789558141 : True := trivial
theorem Mine.law_all.tw11516134287502957769 : True := trivial
theorem Mine.law_all.tw9504067815950663498 : True := trivial
theorem Mine.law_all.tw3012268511640468390 : True := trivial
theorem Mine.law_all.tw8814184745475322185 : True := trivial
theorem Mine.law_all.tw12878576852180475762 : True := trivial
theorem Mine.law_all.tw9421408513443329588 : True := trivial
theorem Mine.law_all.tw17248258474559860081 : True := trivial
theorem Mine.law_all.tw4073406199993252850 : True := trivial
theorem Mine.law_all.tw4322978343721434318 : True := trivial
theorem Mine.law_all.tw17333561848662834254 : True := trivial
theorem Mine.law_all.tw5133684288058214382 : True := trivial
theorem Mine.law_all.tw10041133594965264650 : True := trivial
theorem Mine.law_all.tw15917809590553049049 : True := trivial
theorem Mine.law_all.tw1244168298268136379 : True := trivial
theorem Mine.law_all.tw2234524100257708063 : True := trivial
theorem Mine.law_all.tw6738363049555094938 : True := trivial
theorem Mine.law_all.tw16258484221863406547 : True := trivial
theorem Mine.law_all.tw298556003828902562 : True := trivial
theorem Mine.law_all.tw1536466687738809822 : True := trivial
theorem Mine.law_all.tw3116810793124868424 : True := trivial
theorem Mine.law_all.tw8864850031346182118 : True := trivial
theorem Mine.law_all.tw17962646048161934237 : True := trivial
theorem Mine.law_all.tw16903987867393959857 : True := trivial
theorem Mine.law_all.tw1988555749612562791 : True := trivial
theorem Mine.law_all.tw8631452304911163145 : True := trivial
theorem Mine.law_all.tw8192627400900402444 : True := trivial
theorem Mine.law_all.tw6394399434190074597 : True := trivial
theorem Mine.law_all.tw8665318985690784266 : True := trivial
theorem Mine.law_all.tw14692936392394494320 : True := trivial
theorem Mine.law_all.tw15041844750066439977 : True := trivial
theorem Mine.law_all.tw5606647511850069095 : True := trivial
theorem Mine.law_all.tw505844514383608538 : True := trivial
theorem Mine.law_all.tw1745867294719425553 : True := trivial
theorem Mine.law_all.tw15026446780328764363 : True := trivial
theorem Mine.law_all.tw13008198028515782221 : True := trivial
theorem Mine.law_all.tw13023151741414912232 : True := trivial
theorem Mine.law_all.tw14766775574214876319 : True := trivial
theorem Mine.law_all.tw9519570101095330979 : True := trivial
theorem Mine.law_all.tw8182643449472363497 : True := trivial
theorem Mine.law_all.tw2899457639284417968 : True := trivial
theorem Mine.law_all.tw9126654936404069527 : True := trivial
theorem Mine.law_all.tw308099982120028020 : True := trivial
theorem Mine.law_all.tw254210294449290986 : True := trivial
theorem Mine.law_all.tw753871570185349790 : True := trivial
theorem Mine.law_all.tw16819984471793681257 : True := trivial
theorem Mine.law_all.tw88744338008619462 : True := trivial
theorem Mine.law_all.tw16108003277724382137 : True := trivial
theorem Mine.law_all.tw2921730017392566355 : True := trivial
theorem Mine.law_all.tw10297145265793509435 : True := trivial
theorem Mine.law_all.tw14285781888347874446 : True := trivial
theorem Mine.law_all.tw1115970785884932992 : True := trivial
theorem Mine.law_all.tw7506031421445054254 : True := trivial
theorem Mine.law_all.tw185478952616494882 : True := trivial
theorem Mine.law_all.tw7517537711377488852 : True := trivial
theorem Mine.law_all.tw4493041973297072924 : True := trivial
theorem Mine.law_all.tw16378840673372724951 : True := trivial
theorem Mine.law_all.tw2662628459423469990 : True := trivial
theorem Mine.law_all.tw9005674034113058390 : True := trivial
theorem Mine.law_all.tw5126693611934764887 : True := trivial
theorem Mine.law_all.tw1908834790331025158 : True := trivial
theorem Mine.law_all.tw3275827474247852994 : True := trivial
theorem Mine.law_all.tw14512922981909422826 : True := trivial
theorem Mine.law_all.tw5105902913525381356 : True := trivial
theorem Mine.law_all.tw8373480759210339737 : True := trivial
theorem Mine.law_all.tw14929244992755822200 : True := trivial
theorem Mine.law_all.tw42735402098718572 : True := trivial
theorem Mine.law_all.tw50990029914848857 : True := trivial
theorem Mine.law_all.tw1134505771618074870 : True := trivial
theorem Mine.law_all.tw8408013158107128451 : True := trivial
theorem Mine.law_all.tw14690459059760270787 : True := trivial
theorem Mine.law_all.tw14599607153788883995 : True := trivial
theorem Mine.law_all.tw6471123649784635168 : True := trivial
theorem Mine.law_all.tw7089003446540823613 : True := trivial
theorem Mine.law_all.tw16280616582512762277 : True := trivial
theorem Mine.law_all.tw17025013958437641781 : True := trivial
theorem Mine.law_all.tw11072852086419898238 : True := trivial
theorem Mine.law_all.tw10589317585424288234 : True := trivial
theorem Mine.law_all.tw699081443379234643 : True := trivial
theorem Mine.law_all.tw13846950719819077829 : True := trivial
theorem Mine.law_all.tw6667596460715735799 : True := trivial
theorem Mine.law_all.tw17699220586243776058 : True := trivial
theorem Mine.law_all.tw3178316337248908353 : True := trivial
theorem Mine.law_all.tw5429858767254799258 : True := trivial
theorem Mine.law_all.tw7424173207631694637 : True := trivial
theorem Mine.law_all.tw17535888986555872392 : True := trivial
theorem Mine.law_all.tw18425384942027050804 : True := trivial
theorem Mine.law_all.tw12466342130767247577 : True := trivial
theorem Mine.law_all.tw4767241430983704032 : True := trivial
theorem Mine.law_all.tw9626924371936766941 : True := trivial
theorem Mine.law_all.tw17193921254550333962 : True := trivial
theorem Mine.law_all.tw17008558775933394028 : True := trivial
theorem Mine.law_all.tw1347740606709914761 : True := trivial
theorem Mine.law_all.tw13838683757722122955 : True := trivial
theorem Mine.law_all.tw15061830248806686431 : True := trivial
theorem Mine.law_all.tw5769454105433524467 : True := trivial
theorem Mine.law_all.tw4813512349449720863 : True := trivial
theorem Mine.law_all.tw6529279197570483795 : True := trivial
theorem Mine.law_all.tw9225959068197669698 : True := trivial
theorem Mine.law_all.tw9706086234395682267 : True := trivial
theorem Mine.law_all.tw10808177503072308079 : True := trivial
theorem Mine.law_all.tw9015332790510971594 : True := trivial
theorem Mine.law_all.tw4799799285233713263 : True := trivial
theorem Mine.law_all.tw4513022563276176288 : True := trivial
theorem Mine.law_all.tw12056103759676145562 : True := trivial
theorem Mine.law_all.tw11331813773473021967 : True := trivial
theorem Mine.law_all.tw1458131495679319933 : True := trivial
theorem Mine.law_all.tw11755048821886595345 : True := trivial
theorem Mine.law_all.tw10632998686855480601 : True := trivial
theorem Mine.law_all.tw13140779808272988157 : True := trivial
theorem Mine.law_all.tw5483578599265696199 : True := trivial
theorem Mine.law_all.tw15222793665863523046 : True := trivial
theorem Mine.law_all.tw5467091673537627360 : True := trivial
theorem Mine.law_all.tw16011759601916289475 : True := trivial
theorem Mine.law_all.tw18084503921448002766 : True := trivial
theorem Mine.law_all.tw1125080383469598763 : True := trivial
theorem Mine.law_all.tw6628267780710048319 : True := trivial
theorem Mine.law_all.tw7343335850631077457 : True := trivial
theorem Mine.law_all.tw10250544082008050651 : True := trivial
theorem Mine.law_all.tw623384496221371744 : True := trivial
theorem Mine.law_all.tw11276032279946435343 : True := trivial
theorem Mine.law_all.tw17139090271463625037 : True := trivial
theorem Mine.law_all.tw15404506543987917969 : True := trivial
theorem Mine.law_all.tw7219402698325937587 : True := trivial
theorem Mine.law_all.tw17628540532235563227 : True := trivial
theorem Mine.law_all.tw13528875618702146035 : True := trivial
theorem Mine.law_all.tw12509682125398910234 : True := trivial
theorem Mine.law_all.tw10427663710399940043 : True := trivial
theorem Mine.law_all.tw868222490149932729 : True := trivial
theorem Mine.law_all.tw7250216617388656809 : True := trivial
theorem Mine.law_all.tw3813564530132189172 : True := trivial
theorem Mine.law_all.tw4299841220277086336 : True := trivial
theorem Mine.law_all.tw7601383465899748548 : True := trivial
theorem Mine.law_all.tw3278616100580146713 : True := trivial
theorem Mine.law_all.tw14165149365823648315 : True := trivial
theorem Mine.law_all.tw10620959191045113335 : True := trivial
theorem Mine.law_all.tw10277864918451100114 : True := trivial
theorem Mine.law_all.tw12692521775855915814 : True := trivial
theorem Mine.law_all.tw12588457292089711807 : True := trivial
theorem Mine.law_all.tw5077807667812295140 : True := trivial
theorem Mine.law_all.tw3663503265976199116 : True := trivial
theorem Mine.law_all.tw2924756278709178009 : True := trivial
theorem Mine.law_all.tw5881403375008658740 : True := trivial
theorem Mine.law_all.tw15427931746332374070 : True := trivial
theorem Mine.law_all.tw17783994495123558372 : True := trivial
theorem Mine.law_all.tw3936332338030081361 : True := trivial
theorem Mine.law_all.tw1564792174963846901 : True := trivial
theorem Mine.law_all.tw11570621344050687362 : True := trivial
theorem Mine.law_all.tw5925129876391146066 : True := trivial
theorem Mine.law_all.tw7497220510776412333 : True := trivial
theorem Mine.law_all.tw4118192364197012240 : True := trivial
theorem Mine.law_all.tw7893887008874934858 : True := trivial
theorem Mine.law_all.tw147287198433707135 : True := trivial
theorem Mine.law_all.tw7664980124186717229 : True := trivial
theorem Mine.law_all.tw2906490581532596320 : True := trivial
theorem Mine.law_all.tw3416886346130291467 : True := trivial
theorem Mine.law_all.tw4520348996882111033 : True := trivial
theorem Mine.law_all.tw8351115422591919128 : True := trivial
theorem Mine.law_all.tw17657424406159520245 : True := trivial
theorem Mine.law_all.tw7697204384454675280 : True := trivial
theorem Mine.law_all.tw16724615851476500005 : True := trivial
theorem Mine.law_all.tw8406315387685492880 : True := trivial
theorem Mine.law_all.tw9496831969247301946 : True := trivial
theorem Mine.law_all.tw12104823046187114806 : True := trivial
theorem Mine.law_all.tw5719042974799534917 : True := trivial
theorem Mine.law_all.tw6645749129768185620 : True := trivial
theorem Mine.law_all.tw9447880567076979900 : True := trivial
theorem Mine.law_all.tw5923626274025043023 : True := trivial
theorem Mine.law_all.tw5332743953270975010 : True := trivial
theorem Mine.law_all.tw7902074397041296349 : True := trivial
theorem Mine.law_all.tw16554060013575348944 : True := trivial
theorem Mine.law_all.tw8552878003761168958 : True := trivial
theorem Mine.law_all.tw1343695993253210297 : True := trivial
theorem Mine.law_all.tw9726562403335934281 : True := trivial
theorem Mine.law_all.tw7791761455036148250 : True := trivial
theorem Mine.law_all.tw14745461692227509293 : True := trivial
theorem Mine.law_all.tw6372170185144319752 : True := trivial
theorem Mine.law_all.tw1526100267518658005 : True := trivial
theorem Mine.law_all.tw7028125823600010858 : True := trivial
theorem Mine.law_all.tw3692716606047857953 : True := trivial
theorem Mine.law_all.tw2425498562415444253 : True := trivial
theorem Mine.law_all.tw7647884552941119451 : True := trivial
theorem Mine.law_all.tw15680072974341577534 : True := trivial
theorem Mine.law_all.tw2617532451759129828 : True := trivial
theorem Mine.law_all.tw4767623398743609812 : True := trivial
theorem Mine.law_all.tw14396964315094823396 : True := trivial
theorem Mine.law_all.tw7765527865837770668 : True := trivial
theorem Mine.law_all.tw15955839384417658414 : True := trivial
theorem Mine.law_all.tw1479220743327157826 : True := trivial
theorem Mine.law_all.tw3560663033078476128 : True := trivial
theorem Mine.law_all.tw13312783184378385674 : True := trivial
theorem Mine.law_all.tw13814730616935933626 : True := trivial
theorem Mine.law_all.tw2018976290973465159 : True := trivial
theorem Mine.law_all.tw13050402135260733356 : True := trivial
theorem Mine.law_all.tw4629605032302363013 : True := trivial
theorem Mine.law_all.tw2897607846274201091 : True := trivial
theorem Mine.law_all.tw4116516876634802910 : True := trivial
theorem Mine.law_all.tw13786776866538912107 : True := trivial
theorem Mine.law_all.tw5143838461203301668 : True := trivial
theorem Mine.law_all.tw14484216793023953687 : True := trivial
theorem Mine.law_all.tw15816446151563789378 : True := trivial
theorem Mine.law_all.tw14381365239966274286 : True := trivial
theorem Mine.law_all.tw15991014356718627131 : True := trivial
theorem Mine.law_all.tw11378994670534948722 : True := trivial
theorem Mine.law_all.tw16903961797545972891 : True := trivial
theorem Mine.law_all.tw15693939393655280204 : True := trivial
theorem Mine.law_all.tw15978949696629488146 : True := trivial
theorem Mine.law_all.tw2310117848358827485 : True := trivial
theorem Mine.law_all.tw11945523544114663292 : True := trivial
theorem Mine.law_all.tw14783403437535847111 : True := trivial
theorem Mine.law_all.tw11195006048519719982 : True := trivial
theorem Mine.law_all.tw5306588570621787507 : True := trivial
theorem Mine.law_all.tw7897600568026276390 : True := trivial
theorem Mine.law_all.tw6829346939798277260 : True := trivial
theorem Mine.law_all.tw8378616637936851624 : True := trivial
theorem Mine.law_all.tw1264670296981799925 : True := trivial
theorem Mine.law_all.tw8921295990715661176 : True := trivial
theorem Mine.law_all.tw1909231634321623422 : True := trivial
theorem Mine.law_all.tw4755258198134130943 : True := trivial
theorem Mine.law_all.tw8515956640902208893 : True := trivial
theorem Mine.law_all.tw4875587917594351017 : True := trivial
theorem Mine.law_all.tw11655911931479345256 : True := trivial
theorem Mine.law_all.tw6513319782983348548 : True := trivial
theorem Mine.law_all.tw4048687063676348890 : True := trivial
theorem Mine.law_all.tw14829923604676511662 : True := trivial
theorem Mine.law_all.tw1899502164790749458 : True := trivial
theorem Mine.law_all.tw12162759631566370067 : True := trivial
theorem Mine.law_all.tw8093475581411736961 : True := trivial
theorem Mine.law_all.tw6514298221923599796 : True := trivial
theorem Mine.law_all.tw11126621595802289062 : True := trivial
theorem Mine.law_all.tw1200807466883419909 : True := trivial
theorem Mine.law_all.tw1702886262042523489 : True := trivial
theorem Mine.law_all.tw14200917436561629008 : True := trivial
theorem Mine.law_all.tw4298414287522497693 : True := trivial
theorem Mine.law_all.tw13284267574609153846 : True := trivial
theorem Mine.law_all.tw16081171039842257919 : True := trivial
theorem Mine.law_all.tw11821130883310013321 : True := trivial
theorem Mine.law_all.tw4468289917989545160 : True := trivial
theorem Mine.law_all.tw4800166454244708440 : True := trivial
theorem Mine.law_all.tw2337115943774737595 : True := trivial
theorem Mine.law_all.tw10425333190776739551 : True := trivial
theorem Mine.law_all.tw8496572883052770167 : True := trivial
theorem Mine.law_all.tw11950564495300238953 : True := trivial
theorem Mine.law_all.tw5947366203799548357 : True := trivial
theorem Mine.law_all.tw4706784108104460177 : True := trivial
theorem Mine.law_all.tw5285307726481897559 : True := trivial
theorem Mine.law_all.tw1733342002462095466 : True := trivial
theorem Mine.law_all.tw3243097391343231957 : True := trivial
theorem Mine.law_all.tw6068437695709350847 : True := trivial
theorem Mine.law_all.tw8689406086219333336 : True := trivial
theorem Mine.law_all.tw6038085552947697086 : True := trivial
theorem Mine.law_all.tw15146687380694534961 : True := trivial
theorem Mine.law_all.tw7690104695833144301 : True := trivial
theorem Mine.law_all.tw13323004776771469176 : True := trivial
theorem Mine.law_all.tw10092212651508181671 : True := trivial
theorem Mine.law_all.tw2413856156487422069 : True := trivial
theorem Mine.law_all.tw7320585726020715318 : True := trivial
theorem Mine.law_all.tw9729604732972894722 : True := trivial
theorem Mine.law_all.tw8925359147337055447 : True := trivial
theorem Mine.law_all.tw14573240092562081179 : True := trivial
theorem Mine.law_all.tw6231318655119160662 : True := trivial
theorem Mine.law_all.tw12415205634060267573 : True := trivial
theorem Mine.law_all.tw11344874559957333639 : True := trivial
theorem Mine.law_all.tw9885059535474818502 : True := trivial
theorem Mine.law_all.tw17769878892396552597 : True := trivial
theorem Mine.law_all.tw16132189220444017940 : True := trivial
theorem Mine.law_all.tw9682089725965795925 : True := trivial
theorem Mine.law_all.tw15516733807979383809 : True := trivial
theorem Mine.law_all.tw6592884879708733306 : True := trivial
theorem Mine.law_all.tw9837858002760397563 : True := trivial
theorem Mine.law_all.tw12078552371085240558 : True := trivial
theorem Mine.law_all.tw6775264209203825292 : True := trivial
theorem Mine.law_all.tw2818472761355251851 : True := trivial
theorem Mine.law_all.tw9055577570390366099 : True := trivial
theorem Mine.law_all.tw11161673737740280770 : True := trivial
theorem Mine.law_all.tw10699485395619107383 : True := trivial
theorem Mine.law_all.tw12095277606438711637 : True := trivial
theorem Mine.law_all.tw9193932539253619566 : True := trivial
theorem Mine.law_all.tw13880960847138548369 : True := trivial
theorem Mine.law_all.tw14384918623772240547 : True := trivial
theorem Mine.law_all.tw857312800663944748 : True := trivial
theorem Mine.law_all.tw9929707098585528879 : True := trivial
theorem Mine.law_all.tw17956888979338296214 : True := trivial
theorem Mine.law_all.tw3015541545424464467 : True := trivial
theorem Mine.law_all.tw15053150841094675366 : True := trivial
theorem Mine.law_all.tw8287017651184956003 : True := trivial
theorem Mine.law_all.tw17459176674885784516 : True := trivial
theorem Mine.law_all.tw13061075394575644761 : True := trivial
theorem Mine.law_all.tw6022211634629375331 : True := trivial
theorem Mine.law_all.tw12685006382546950688 : True := trivial
theorem Mine.law_all.tw11237757471492391802 : True := trivial
theorem Mine.law_all.tw1541181133342956825 : True := trivial
theorem Mine.law_all.tw3825936540422273863 : True := trivial
theorem Mine.law_all.tw17167370007966241821 : True := trivial
theorem Mine.law_all.tw12733668576097638289 : True := trivial
theorem Mine.law_all.tw11086646823923730572 : True := trivial
theorem Mine.law_all.tw14817745034569102223 : True := trivial
theorem Mine.law_all.tw6723525195617269812 : True := trivial
theorem Mine.law_all.tw9987792911408698340 : True := trivial
theorem Mine.law_all.tw1619606534716276043 : True := trivial
theorem Mine.law_all.tw13126924672156596446 : True := trivial
theorem Mine.law_all.tw18223944042725728250 : True := trivial
theorem Mine.law_all.tw12733029705023595350 : True := trivial
theorem Mine.law_all.tw10780945830723714241 : True := trivial
theorem Mine.law_all.tw9337859482809679654 : True := trivial
theorem Mine.law_all.tw4289236661132030044 : True := trivial
theorem Mine.law_all.tw13140519786740650072 : True := trivial
theorem Mine.law_all.tw5199301434253951998 : True := trivial
theorem Mine.law_all.tw1682832674239571567 : True := trivial
theorem Mine.law_all.tw14971921406432897392 : True := trivial
theorem Mine.law_all.tw4545471796157021838 : True := trivial
theorem Mine.law_all.tw17671693468899418834 : True := trivial
theorem Mine.law_all.tw2862211712955723747 : True := trivial
theorem Mine.law_all.tw4771868648470891126 : True := trivial
theorem Mine.law_all.tw12443848507722431881 : True := trivial
theorem Mine.law_all.tw1373718396076105583 : True := trivial
theorem Mine.law_all.tw4105255371170773908 : True := trivial
theorem Mine.law_all.tw13698209543225463622 : True := trivial
theorem Mine.law_all.tw7166755544651728111 : True := trivial
theorem Mine.law_all.tw697804852917623427 : True := trivial
theorem Mine.law_all.tw11379858719792009985 : True := trivial
theorem Mine.law_all.tw6649969067901403340 : True := trivial
theorem Mine.law_all.tw450456051597042649 : True := trivial
theorem Mine.law_all.tw11968179528029030403 : True := trivial
theorem Mine.law_all.tw2432424846941410789 : True := trivial
theorem Mine.law_all.tw13977805788617109767 : True := trivial
theorem Mine.law_all.tw5961023722609971472 : True := trivial
theorem Mine.law_all.tw1822193252918744523 : True := trivial
theorem Mine.law_all.tw5386138778478946084 : True := trivial
theorem Mine.law_all.tw11973853004191696713 : True := trivial
theorem Mine.law_all.tw4787805881238422163 : True := trivial
theorem Mine.law_all.tw16364907183938773818 : True := trivial
theorem Mine.law_all.tw1006284481315042348 : True := trivial
theorem Mine.law_all.tw12719020962863150717 : True := trivial
theorem Mine.law_all.tw4316066407692741691 : True := trivial
theorem Mine.law_all.tw7385059913978287034 : True := trivial
theorem Mine.law_all.tw7837713855860009970 : True := trivial
theorem Mine.law_all.tw17606432771363783360 : True := trivial
theorem Mine.law_all.tw18098063318637971162 : True := trivial
theorem Mine.law_all.tw7206139752427571534 : True := trivial
theorem Mine.law_all.tw14404595031650566798 : True := trivial
theorem Mine.law_all.tw1166129813771130549 : True := trivial
theorem Mine.law_all.tw9895718714931393807 : True := trivial
theorem Mine.law_all.tw4054552316874386740 : True := trivial
theorem Mine.law_all.tw3806819470392062991 : True := trivial
theorem Mine.law_all.tw16084122824873582314 : True := trivial
theorem Mine.law_all.tw4310718505664016985 : True := trivial
theorem Mine.law_all.tw18243188635623463072 : True := trivial
theorem Mine.law_all.tw8352638903468824440 : True := trivial
theorem Mine.law_all.tw9098079959301702225 : True := trivial
theorem Mine.law_all.tw6236118766085468272 : True := trivial
theorem Mine.law_all.tw16669387040374730769 : True := trivial
theorem Mine.law_all.tw9350206980387211188 : True := trivial
theorem Mine.law_all.tw2754305514957794308 : True := trivial
theorem Mine.law_all.tw12055539081176029090 : True := trivial
theorem Mine.law_all.tw17894447663895493757 : True := trivial
theorem Mine.law_all.tw11566998951525393313 : True := trivial
theorem Mine.law_all.tw801417409540640141 : True := trivial
theorem Mine.law_all.tw17818739092667572935 : True := trivial
theorem Mine.law_all.tw8068670141169891791 : True := trivial
theorem Mine.law_all.tw14483480384061991028 : True := trivial
theorem Mine.law_all.tw3342747189937667127 : True := trivial
theorem Mine.law_all.tw1646534875598493178 : True := trivial
theorem Mine.law_all.tw6237928856598503754 : True := trivial
theorem Mine.law_all.tw13171468961803394345 : True := trivial
theorem Mine.law_all.tw9715068110327944835 : True := trivial
theorem Mine.law_all.tw14591837725140855343 : True := trivial
theorem Mine.law_all.tw17879881856010532143 : True := trivial
theorem Mine.law_all.tw16101399557488211435 : True := trivial
theorem Mine.law_all.tw14112813277465929817 : True := trivial
theorem Mine.law_all.tw17091725206767289263 : True := trivial
theorem Mine.law_all.tw10152195772459584916 : True := trivial
theorem Mine.law_all.tw11283148420750326516 : True := trivial
theorem Mine.law_all.tw7762748990098453861 : True := trivial
theorem Mine.law_all.tw9484003277438265565 : True := trivial
theorem Mine.law_all.tw15336482529451251379 : True := trivial
theorem Mine.law_all.tw7831887952337321200 : True := trivial
theorem Mine.law_all.tw17423994124011686517 : True := trivial
theorem Mine.law_all.tw18049563021733404900 : True := trivial
theorem Mine.law_all.tw2619257411496593575 : True := trivial
theorem Mine.law_all.tw8559622642134532576 : True := trivial
theorem Mine.law_all.tw10447141982152834051 : True := trivial
theorem Mine.law_all.tw10492806786580578284 : True := trivial
theorem Mine.law_all.tw8587321083128229445 : True := trivial
theorem Mine.law_all.tw14752512131158284028 : True := trivial
theorem Mine.law_all.tw11981917482434212799 : True := trivial
theorem Mine.law_all.tw14011421268284267096 : True := trivial
theorem Mine.law_all.tw5058365699104195747 : True := trivial
theorem Mine.law_all.tw11844059635380801397 : True := trivial
theorem Mine.law_all.tw14058198244844264512 : True := trivial
theorem Mine.law_all.tw18438550808169337630 : True := trivial
theorem Mine.law_all.tw12491990524712166927 : True := trivial
theorem Mine.law_all.tw644590359430075232 : True := trivial
theorem Mine.law_all.tw4663659113027530946 : True := trivial
theorem Mine.law_all.tw9101883533985367949 : True := trivial
theorem Mine.law_all.tw8990330740181145737 : True := trivial
theorem Mine.law_all.tw14976291558557332888 : True := trivial
theorem Mine.law_all.tw6064550380648306667 : True := trivial
theorem Mine.law_all.tw17073913150402608559 : True := trivial
theorem Mine.law_all.tw1536540366311737286 : True := trivial
theorem Mine.law_all.tw8175941863582059467 : True := trivial
theorem Mine.law_all.tw324088458086427686 : True := trivial
theorem Mine.law_all.tw10075033275381536440 : True := trivial
theorem Mine.law_all.tw10548317783181927485 : True := trivial
theorem Mine.law_all.tw10474069288783402820 : True := trivial
theorem Mine.law_all.tw2586092790497031182 : True := trivial
theorem Mine.law_all.tw7379131392961922385 : True := trivial
theorem Mine.law_all.tw10344729229328920165 : True := trivial
theorem Mine.law_all.tw14578468027487938174 : True := trivial
theorem Mine.law_all.tw13662883176790347504 : True := trivial
theorem Mine.law_all.tw390498358708893106 : True := trivial
theorem Mine.law_all.tw15362320644881486680 : True := trivial
theorem Mine.law_all.tw18074040619987095483 : True := trivial
theorem Mine.law_all.tw17313086474550658941 : True := trivial
theorem Mine.law_all.tw18031673381082608066 : True := trivial
theorem Mine.law_all.tw3426539022656043222 : True := trivial
theorem Mine.law_all.tw10437830444076844960 : True := trivial
theorem Mine.law_all.tw14086168745368120678 : True := trivial
theorem Mine.law_all.tw5196125583654719661 : True := trivial
theorem Mine.law_all.tw14991419344657449139 : True := trivial
theorem Mine.law_all.tw2791512771193701167 : True := trivial
theorem Mine.law_all.tw18272266722473543086 : True := trivial
theorem Mine.law_all.tw10132980813947130738 : True := trivial
theorem Mine.law_all.tw15186910425931473683 : True := trivial
theorem Mine.law_all.tw9281404008301498739 : True := trivial
theorem Mine.law_all.tw6311965134907485826 : True := trivial
theorem Mine.law_all.tw5914833246583547866 : True := trivial
theorem Mine.law_all.tw1748755634552202416 : True := trivial
theorem Mine.law_all.tw3728958221131766131 : True := trivial
theorem Mine.law_all.tw7382394883274062982 : True := trivial
theorem Mine.law_all.tw5341963815596595863 : True := trivial
theorem Mine.law_all.tw4783601065168354762 : True := trivial
theorem Mine.law_all.tw11986533732874898875 : True := trivial
theorem Mine.law_all.tw3933338468746785916 : True := trivial
theorem Mine.law_all.tw11739812003963863410 : True := trivial
theorem Mine.law_all.tw9758465039191818689 : True := trivial
theorem Mine.law_all.tw18235319390762920864 : True := trivial
theorem Mine.law_all.tw13699687274142533169 : True := trivial
theorem Mine.law_all.tw11887072702994114029 : True := trivial
theorem Mine.law_all.tw5368372463894450783 : True := trivial
theorem Mine.law_all.tw18236519589282089527 : True := trivial
theorem Mine.law_all.tw4665142225715192508 : True := trivial
theorem Mine.law_all.tw12012145143388645040 : True := trivial
theorem Mine.law_all.tw3764594079211352018 : True := trivial
theorem Mine.law_all.tw9405689241106513495 : True := trivial
theorem Mine.law_all.tw11615710364362942683 : True := trivial
theorem Mine.law_all.tw1756717570143565084 : True := trivial
theorem Mine.law_all.tw5453859960540951435 : True := trivial
theorem Mine.law_all.tw12644882131140162811 : True := trivial
theorem Mine.law_all.tw14600590696809855391 : True := trivial
theorem Mine.law_all.tw5409939720034131757 : True := trivial
theorem Mine.law_all.tw644193453371022997 : True := trivial
theorem Mine.law_all.tw5391715999942285979 : True := trivial
theorem Mine.law_all.tw10464263001826078911 : True := trivial
theorem Mine.law_all.tw10112902700007934811 : True := trivial
theorem Mine.law_all.tw1851005829296705102 : True := trivial
theorem Mine.law_all.tw12681778448758301329 : True := trivial
theorem Mine.law_all.tw16314742590276871135 : True := trivial
theorem Mine.law_all.tw10969439180591476309 : True := trivial
theorem Mine.law_all.tw16436836394604217106 : True := trivial
theorem Mine.law_all.tw12240263347232697027 : True := trivial
theorem Mine.law_all.tw7804374761869212844 : True := trivial
theorem Mine.law_all.tw4411415793883364592 : True := trivial
theorem Mine.law_all.tw456885184704423047 : True := trivial
theorem Mine.law_all.tw13211181752546427078 : True := trivial
theorem Mine.law_all.tw3284748957273996875 : True := trivial
theorem Mine.law_all.tw4969457626559569432 : True := trivial
theorem Mine.law_all.tw13680609273526107374 : True := trivial
theorem Mine.law_all.tw14236084546645660719 : True := trivial
theorem Mine.law_all.tw17547520148116901912 : True := trivial
theorem Mine.law_all.tw10806039510188334631 : True := trivial
theorem Mine.law_all.tw15671280296326744443 : True := trivial
theorem Mine.law_all.tw17215917983952657280 : True := trivial
theorem Mine.law_all.tw12247398745213465826 : True := trivial
theorem Mine.law_all.tw13491740491915545503 : True := trivial
theorem Mine.law_all.tw2631628752055362666 : True := trivial
theorem Mine.law_all.tw9372167265927652766 : True := trivial
theorem Mine.law_all.tw16371739260329825113 : True := trivial
theorem Mine.law_all.tw17669519193255119196 : True := trivial
theorem Mine.law_all.tw8399003694265948756 : True := trivial
theorem Mine.law_all.tw12703074045546933829 : True := trivial
theorem Mine.law_all.tw1668538180921589862 : True := trivial
theorem Mine.law_all.tw15546441815245403988 : True := trivial
theorem Mine.law_all.tw17060384074182460019 : True := trivial
theorem Mine.law_all.tw11194228370837134999 : True := trivial
theorem Mine.law_all.tw13531483092564520072 : True := trivial
theorem Mine.law_all.tw1542534431135467645 : True := trivial
theorem Mine.law_all.tw8305597428437692698 : True := trivial
theorem Mine.law_all.tw4881685112826633117 : True := trivial
theorem Mine.law_all.tw9112288994732759537 : True := trivial
theorem Mine.law_all.tw14662071744767229590 : True := trivial
theorem Mine.law_all.tw17204981761803003489 : True := trivial
theorem Mine.law_all.tw9385311596571155968 : True := trivial
theorem Mine.law_all.tw2224743311408289904 : True := trivial
theorem Mine.law_all.tw6564360385875737041 : True := trivial
theorem Mine.law_all.tw9058530902327166115 : True := trivial
theorem Mine.law_all.tw10024686837709580625 : True := trivial
theorem Mine.law_all.tw2225694422541459837 : True := trivial
theorem Mine.law_all.tw14598207043298650064 : True := trivial
theorem Mine.law_all.tw8765806042451288875 : True := trivial
theorem Mine.law_all.tw1487786111206980130 : True := trivial
theorem Mine.law_all.tw16745809935298821572 : True := trivial
theorem Mine.law_all.tw13104927337049522412 : True := trivial
theorem Mine.law_all.tw17737764639412749679 : True := trivial
theorem Mine.law_all.tw18180275025638004960 : True := trivial
theorem Mine.law_all.tw10470740866990187283 : True := trivial
theorem Mine.law_all.tw6755600590273672426 : True := trivial
theorem Mine.law_all.tw1294855798985786495 : True := trivial
theorem Mine.law_all.tw6157751959391354502 : True := trivial
theorem Mine.law_all.tw16768936007509957499 : True := trivial
theorem Mine.law_all.tw8518996810716976194 : True := trivial
theorem Mine.law_all.tw11085147635474315433 : True := trivial
theorem Mine.law_all.tw9815803367523510294 : True := trivial
theorem Mine.law_all.tw7757561431791933054 : True := trivial
theorem Mine.law_all.tw9437977712622912741 : True := trivial
theorem Mine.law_all.tw6438830307732024469 : True := trivial
theorem Mine.law_all.tw1696500276726984248 : True := trivial
theorem Mine.law_all.tw16118133896454242471 : True := trivial
theorem Mine.law_all.tw16371911816118071455 : True := trivial
theorem Mine.law_all.tw14966067393961270158 : True := trivial
theorem Mine.law_all.tw12610587468927266379 : True := trivial
theorem Mine.law_all.tw7290121776363987770 : True := trivial
theorem Mine.law_all.tw7227878493039989945 : True := trivial
theorem Mine.law_all.tw587449342414447963 : True := trivial
theorem Mine.law_all.tw7271498159299846290 : True := trivial
theorem Mine.law_all.tw17035568942905013000 : True := trivial
theorem Mine.law_all.tw7680916366514936674 : True := trivial
theorem Mine.law_all.tw10529780158634616513 : True := trivial
theorem Mine.law_all.tw12057113539981475253 : True := trivial
theorem Mine.law_all.tw11833566044642688545 : True := trivial
theorem Mine.law_all.tw15746133877532336623 : True := trivial
theorem Mine.law_all.tw16892600953724058444 : True := trivial
theorem Mine.law_all.tw782427809645370415 : True := trivial
theorem Mine.law_all.tw6237155331754066022 : True := trivial
theorem Mine.law_all.tw16741880675132489432 : True := trivial
theorem Mine.law_all.tw11911069920064303837 : True := trivial
theorem Mine.law_all.tw2113808404335124552 : True := trivial
theorem Mine.law_all.tw15076095784800757957 : True := trivial
theorem Mine.law_all.tw86908756275839534 : True := trivial
theorem Mine.law_all.tw7416931893851735294 : True := trivial
theorem Mine.law_all.tw12309555987426629805 : True := trivial
theorem Mine.law_all.tw13881306047427017735 : True := trivial
theorem Mine.law_all.tw3665484915411088083 : True := trivial
theorem Mine.law_all.tw5823586147374532853 : True := trivial
theorem Mine.law_all.tw13928278647878734309 : True := trivial
theorem Mine.law_all.tw4728599345574348774 : True := trivial
theorem Mine.law_all.tw2253686190644405003 : True := trivial
theorem Mine.law_all.tw2577563808611626836 : True := trivial
theorem Mine.law_all.tw1100412207481686545 : True := trivial
theorem Mine.law_all.tw391340077780216222 : True := trivial
theorem Mine.law_all.tw9019875401820227665 : True := trivial
theorem Mine.law_all.tw12507762813244862470 : True := trivial
theorem Mine.law_all.tw866766908457270551 : True := trivial
theorem Mine.law_all.tw3743276652137241584 : True := trivial
theorem Mine.law_all.tw4848548716629997264 : True := trivial
theorem Mine.law_all.tw2872085493576920064 : True := trivial
theorem Mine.law_all.tw13095150338055272814 : True := trivial
theorem Mine.law_all.tw16434993861110634532 : True := trivial
theorem Mine.law_all.tw11499723639459963570 : True := trivial
theorem Mine.law_all.tw16962350897556312332 : True := trivial
theorem Mine.law_all.tw17208948692691691804 : True := trivial
theorem Mine.law_all.tw12230927248747617965 : True := trivial
theorem Mine.law_all.tw11806459468589365706 : True := trivial
theorem Mine.law_all.tw2746415857694854958 : True := trivial
theorem Mine.law_all.tw10754601566845926611 : True := trivial
theorem Mine.law_all.tw18069371669798473238 : True := trivial
theorem Mine.law_all.tw7358765618238378763 : True := trivial
theorem Mine.law_all.tw7119508329715715523 : True := trivial
theorem Mine.law_all.tw1325725505073848231 : True := trivial
theorem Mine.law_all.tw4011130107991819787 : True := trivial
theorem Mine.law_all.tw7241301525396740710 : True := trivial
theorem Mine.law_all.tw12742291788480804056 : True := trivial
theorem Mine.law_all.tw12303014915382014946 : True := trivial
theorem Mine.law_all.tw11953936395949465439 : True := trivial
theorem Mine.law_all.tw6456847839567275990 : True := trivial
theorem Mine.law_all.tw7035262430463298820 : True := trivial
theorem Mine.law_all.tw12051850038722144316 : True := trivial
theorem Mine.law_all.tw289511000256421866 : True := trivial
theorem Mine.law_all.tw13697446050514408011 : True := trivial
theorem Mine.law_all.tw8259473591719373357 : True := trivial
theorem Mine.law_all.tw796818876455020728 : True := trivial
theorem Mine.law_all.tw13515836412680247291 : True := trivial
theorem Mine.law_all.tw16838179679014408406 : True := trivial
theorem Mine.law_all.tw2465578340897827915 : True := trivial
theorem Mine.law_all.tw14169471996915453906 : True := trivial
theorem Mine.law_all.tw15988576510117618290 : True := trivial
theorem Mine.law_all.tw3263060017730090603 : True := trivial
theorem Mine.law_all.tw4373205857372294398 : True := trivial
theorem Mine.law_all.tw6039264787345505811 : True := trivial
theorem Mine.law_all.tw1195523087049108795 : True := trivial
theorem Mine.law_all.tw7090190583926799169 : True := trivial
theorem Mine.law_all.tw670697118951388126 : True := trivial
theorem Mine.law_all.tw4338267340049963969 : True := trivial
theorem Mine.law_all.tw6397261156675118401 : True := trivial
theorem Mine.law_all.tw6281480290983300618 : True := trivial
theorem Mine.law_all.tw571745101423254476 : True := trivial
theorem Mine.law_all.tw13763162616901922433 : True := trivial
theorem Mine.law_all.tw8961255980978662838 : True := trivial
theorem Mine.law_all.tw8053974599713079812 : True := trivial
theorem Mine.law_all.tw18299426437183154797 : True := trivial
theorem Mine.law_all.tw7911531064090814180 : True := trivial
theorem Mine.law_all.tw1556948465960636121 : True := trivial
theorem Mine.law_all.tw937055499877386264 : True := trivial
theorem Mine.law_all.tw16759230557537464115 : True := trivial
theorem Mine.law_all.tw866564066945910344 : True := trivial
theorem Mine.law_all.tw17198419215744740974 : True := trivial
theorem Mine.law_all.tw4142882797520435500 : True := trivial
theorem Mine.law_all.tw2506844670610910573 : True := trivial
theorem Mine.law_all.tw15982079766070313398 : True := trivial
theorem Mine.law_all.tw8347406222979154285 : True := trivial
theorem Mine.law_all.tw5315506903917589002 : True := trivial
theorem Mine.law_all.tw3924797017141402407 : True := trivial
theorem Mine.law_all.tw9462809283271141762 : True := trivial
theorem Mine.law_all.tw7521826775273887693 : True := trivial
theorem Mine.law_all.tw15894988515832802272 : True := trivial
theorem Mine.law_all.tw8937883705780218553 : True := trivial
theorem Mine.law_all.tw5515175385397997255 : True := trivial
theorem Mine.law_all.tw13573102627690589801 : True := trivial
theorem Mine.law_all.tw1703305540711997886 : True := trivial
theorem Mine.law_all.tw2763200530551224835 : True := trivial
theorem Mine.law_all.tw3602784471345507114 : True := trivial
theorem Mine.law_all.tw2885707341163702077 : True := trivial
theorem Mine.law_all.tw1408806660432250928 : True := trivial
theorem Mine.law_all.tw2981204530259232531 : True := trivial
theorem Mine.law_all.tw7213851623774115239 : True := trivial
theorem Mine.law_all.tw3877723044392924569 : True := trivial
theorem Mine.law_all.tw15740732772335265587 : True := trivial
theorem Mine.law_all.tw16413752452701970063 : True := trivial
theorem Mine.law_all.tw1189080093081105346 : True := trivial
theorem Mine.law_all.tw9847930118418132646 : True := trivial
theorem Mine.law_all.tw3498384184797677056 : True := trivial
theorem Mine.law_all.tw8723218627587633102 : True := trivial
theorem Mine.law_all.tw16693345006668779598 : True := trivial
theorem Mine.law_all.tw11407212017213923087 : True := trivial
theorem Mine.law_all.tw5945882358115643694 : True := trivial
theorem Mine.law_all.tw14816879207175617225 : True := trivial
theorem Mine.law_all.tw18313445508184284481 : True := trivial
theorem Mine.law_all.tw8059288581424842436 : True := trivial
theorem Mine.law_all.tw11779399842900871346 : True := trivial
theorem Mine.law_all.tw11628095284720837169 : True := trivial
theorem Mine.law_all.tw2202764407437257358 : True := trivial
theorem Mine.law_all.tw7672995546314809169 : True := trivial
theorem Mine.law_all.tw3573340081450625464 : True := trivial
theorem Mine.law_all.tw11575233253633470811 : True := trivial
theorem Mine.law_all.tw4449761216389261190 : True := trivial
theorem Mine.law_all.tw17118986888630616858 : True := trivial
theorem Mine.law_all.tw1684386024576819110 : True := trivial
theorem Mine.law_all.tw6160080969221487542 : True := trivial
theorem Mine.law_all.tw17213219829386642084 : True := trivial
theorem Mine.law_all.tw14100515932553792916 : True := trivial
theorem Mine.law_all.tw7296818474457393607 : True := trivial
theorem Mine.law_all.tw9389932311233280350 : True := trivial
theorem Mine.law_all.tw11370059905445811129 : True := trivial
theorem Mine.law_all.tw9697324461614764831 : True := trivial
theorem Mine.law_all.tw14680051335654784553 : True := trivial
theorem Mine.law_all.tw12415261661798453589 : True := trivial
theorem Mine.law_all.tw4438399736822516121 : True := trivial
theorem Mine.law_all.tw11780552165158174459 : True := trivial
theorem Mine.law_all.tw451512973457695194 : True := trivial
theorem Mine.law_all.tw12880530043633816451 : True := trivial
theorem Mine.law_all.tw6352045179492744985 : True := trivial
theorem Mine.law_all.tw2472384424244870459 : True := trivial
theorem Mine.law_all.tw13760747126890918739 : True := trivial
theorem Mine.law_all.tw13522768611430641604 : True := trivial
theorem Mine.law_all.tw16385951753907185183 : True := trivial
theorem Mine.law_all.tw4810359999024667066 : True := trivial
theorem Mine.law_all.tw7539104779076750295 : True := trivial
theorem Mine.law_all.tw8718603462263403589 : True := trivial
theorem Mine.law_all.tw15275527861284700546 : True := trivial
theorem Mine.law_all.tw43822206185756307 : True := trivial
theorem Mine.law_all.tw12942184054927948311 : True := trivial
theorem Mine.law_all.tw14007897523862953668 : True := trivial
theorem Mine.law_all.tw15743857825236497588 : True := trivial
theorem Mine.law_all.tw17115713224241774592 : True := trivial
theorem Mine.law_all.tw6378717016339408911 : True := trivial
theorem Mine.law_all.tw18019929789766518222 : True := trivial
theorem Mine.law_all.tw11541454027444291867 : True := trivial
theorem Mine.law_all.tw3777453917453456667 : True := trivial
theorem Mine.law_all.tw9526463903346643153 : True := trivial
theorem Mine.law_all.tw16850067431916028951 : True := trivial
theorem Mine.law_all.tw51366843150158886 : True := trivial
theorem Mine.law_all.tw6281336798887741830 : True := trivial
theorem Mine.law_all.tw15817853144674484978 : True := trivial
theorem Mine.law_all.tw7565920113569585601 : True := trivial
theorem Mine.law_all.tw11256467734840833315 : True := trivial
theorem Mine.law_all.tw1224010249265392569 : True := trivial
theorem Mine.law_all.tw15256493282736253867 : True := trivial
theorem Mine.law_all.tw540954306642092798 : True := trivial
theorem Mine.law_all.tw11819635365892184359 : True := trivial
theorem Mine.law_all.tw6801470937092483863 : True := trivial
theorem Mine.law_all.tw17516141867632195740 : True := trivial
theorem Mine.law_all.tw14435836088163181261 : True := trivial
theorem Mine.law_all.tw2174520888648116866 : True := trivial
theorem Mine.law_all.tw13509177966542993873 : True := trivial
theorem Mine.law_all.tw1115311737908471259 : True := trivial
theorem Mine.law_all.tw14232367337319313231 : True := trivial
theorem Mine.law_all.tw5962365601980372440 : True := trivial
theorem Mine.law_all.tw8224182919288875669 : True := trivial
theorem Mine.law_all.tw18198261566025488028 : True := trivial
theorem Mine.law_all.tw13367176642022358155 : True := trivial
theorem Mine.law_all.tw15753174923161979217 : True := trivial
theorem Mine.law_all.tw4416124102532421093 : True := trivial
theorem Mine.law_all.tw2726533656112109469 : True := trivial
theorem Mine.law_all.tw12623802867859471158 : True := trivial
theorem Mine.law_all.tw15696156366995490489 : True := trivial
theorem Mine.law_all.tw13794602993731048600 : True := trivial
theorem Mine.law_all.tw3358472159093845929 : True := trivial
theorem Mine.law_all.tw4357118453508938140 : True := trivial
theorem Mine.law_all.tw13456863692723816207 : True := trivial
theorem Mine.law_all.tw865885312489698057 : True := trivial
theorem Mine.law_all.tw1172793060472301760 : True := trivial
theorem Mine.law_all.tw18369321035705266579 : True := trivial
theorem Mine.law_all.tw1961576592547977382 : True := trivial
theorem Mine.law_all.tw7702720457695366031 : True := trivial
theorem Mine.law_all.tw5564237334548157303 : True := trivial
theorem Mine.law_all.tw10300875812035996732 : True := trivial
theorem Mine.law_all.tw1178986762315405437 : True := trivial
theorem Mine.law_all.tw10221997122443297352 : True := trivial
theorem Mine.law_all.tw12760510453615215998 : True := trivial
theorem Mine.law_all.tw2431311244206744821 : True := trivial
theorem Mine.law_all.tw13523418062013228558 : True := trivial
theorem Mine.law_all.tw4625211604613518413 : True := trivial
theorem Mine.law_all.tw1407716047416726741 : True := trivial
theorem Mine.law_all.tw10565121375587587042 : True := trivial
theorem Mine.law_all.tw14174517074612190596 : True := trivial
theorem Mine.law_all.tw17367182206784257886 : True := trivial
theorem Mine.law_all.tw16768144245005235482 : True := trivial
theorem Mine.law_all.tw1682840521854849442 : True := trivial
theorem Mine.law_all.tw6463489072841894807 : True := trivial
theorem Mine.law_all.tw3325111520719290175 : True := trivial
theorem Mine.law_all.tw10575808222751662728 : True := trivial
theorem Mine.law_all.tw11681217401251675389 : True := trivial
theorem Mine.law_all.tw8810399088073249494 : True := trivial
theorem Mine.law_all.tw13685136416335799533 : True := trivial
theorem Mine.law_all.tw18383949787495555429 : True := trivial
theorem Mine.law_all.tw17386547048453696860 : True := trivial
theorem Mine.law_all.tw3050570416659367537 : True := trivial
theorem Mine.law_all.tw7701153426736177974 : True := trivial
theorem Mine.law_all.tw5403677533733193846 : True := trivial
theorem Mine.law_all.tw906757414912418612 : True := trivial
theorem Mine.law_all.tw12836747770095448064 : True := trivial
theorem Mine.law_all.tw8618336906785351942 : True := trivial
theorem Mine.law_all.tw581509044858899661 : True := trivial
theorem Mine.law_all.tw8755279341700096616 : True := trivial
theorem Mine.law_all.tw4959470712613272833 : True := trivial
theorem Mine.law_all.tw13066556902979482641 : True := trivial
theorem Mine.law_all.tw7163010275520755743 : True := trivial
theorem Mine.law_all.tw1288270072008814257 : True := trivial
theorem Mine.law_all.tw5480159453071252461 : True := trivial
theorem Mine.law_all.tw357486453476387696 : True := trivial
theorem Mine.law_all.tw10972643930856128791 : True := trivial
theorem Mine.law_all.tw35717200308832025 : True := trivial
theorem Mine.law_all.tw6851157634355297669 : True := trivial
theorem Mine.law_all.tw3740185271146487245 : True := trivial
theorem Mine.law_all.tw12534027776361810370 : True := trivial
theorem Mine.law_all.tw9511935718328076245 : True := trivial
theorem Mine.law_all.tw2965987889837986908 : True := trivial
theorem Mine.law_all.tw17311543511305506410 : True := trivial
theorem Mine.law_all.tw12795914074852961918 : True := trivial
theorem Mine.law_all.tw9429942708143374130 : True := trivial
theorem Mine.law_all.tw17969530034244639028 : True := trivial
theorem Mine.law_all.tw8295653638501232855 : True := trivial
theorem Mine.law_all.tw8564888430778796407 : True := trivial
theorem Mine.law_all.tw15796676433106474108 : True := trivial
theorem Mine.law_all.tw14115007137499183204 : True := trivial
theorem Mine.law_all.tw13984151417817525133 : True := trivial
theorem Mine.law_all.tw2747623398821866450 : True := trivial
theorem Mine.law_all.tw13707208606822203510 : True := trivial
theorem Mine.law_all.tw7564772252293548769 : True := trivial
theorem Mine.law_all.tw17821587149742552891 : True := trivial
theorem Mine.law_all.tw16829598718399601788 : True := trivial
theorem Mine.law_all.tw18115598367602769801 : True := trivial
theorem Mine.law_all.tw15353343082906663676 : True := trivial
theorem Mine.law_all.tw2238069962009214901 : True := trivial
theorem Mine.law_all.tw7914111920488281241 : True := trivial
theorem Mine.law_all.tw15175368528575537740 : True := trivial
theorem Mine.law_all.tw1584610834578658081 : True := trivial
theorem Mine.law_all.tw17824699565076465075 : True := trivial
theorem Mine.law_all.tw13955646682027860996 : True := trivial
theorem Mine.law_all.tw11527891035238042781 : True := trivial
theorem Mine.law_all.tw14998430357298625318 : True := trivial
theorem Mine.law_all.tw4312221214654303245 : True := trivial
theorem Mine.law_all.tw12852575843583276402 : True := trivial
theorem Mine.law_all.tw2558263876058320549 : True := trivial
theorem Mine.law_all.tw9793429609119093069 : True := trivial
theorem Mine.law_all.tw2891144412967124082 : True := trivial
theorem Mine.law_all.tw11008839944985332601 : True := trivial
theorem Mine.law_all.tw9000883745109673501 : True := trivial
theorem Mine.law_all.tw10486281728991561039 : True := trivial
theorem Mine.law_all.tw15313853814466723436 : True := trivial
theorem Mine.law_all.tw11666791612657790110 : True := trivial
theorem Mine.law_all.tw13288071306723581143 : True := trivial
theorem Mine.law_all.tw2812987420286402142 : True := trivial
theorem Mine.law_all.tw7518268271031788722 : True := trivial
theorem Mine.law_all.tw4198061620403395136 : True := trivial
theorem Mine.law_all.tw4270512862863035808 : True := trivial
theorem Mine.law_all.tw7032130934624792205 : True := trivial
theorem Mine.law_all.tw11266150474529332087 : True := trivial
theorem Mine.law_all.tw7810743181515291045 : True := trivial
theorem Mine.law_all.tw16371026202757247076 : True := trivial
theorem Mine.law_all.tw14306978333734412998 : True := trivial
theorem Mine.law_all.tw374766727668220859 : True := trivial
theorem Mine.law_all.tw5495784557159034327 : True := trivial
theorem Mine.law_all.tw17381011072343130446 : True := trivial
theorem Mine.law_all.tw18084819778460367582 : True := trivial
theorem Mine.law_all.tw10562567905742353873 : True := trivial
theorem Mine.law_all.tw8803404886157929299 : True := trivial
theorem Mine.law_all.tw10427768884268684552 : True := trivial
theorem Mine.law_all.tw14437242743615798716 : True := trivial
theorem Mine.law_all.tw14300270879109701445 : True := trivial
theorem Mine.law_all.tw13581327203777572028 : True := trivial
theorem Mine.law_all.tw11156016171303442314 : True := trivial
theorem Mine.law_all.tw13989974958611873218 : True := trivial
theorem Mine.law_all.tw12620598019160589179 : True := trivial
theorem Mine.law_all.tw645013614473375241 : True := trivial
theorem Mine.law_all.tw8836462397961589918 : True := trivial
theorem Mine.law_all.tw15955814874369106537 : True := trivial
theorem Mine.law_all.tw11587524997120335971 : True := trivial
theorem Mine.law_all.tw15823504312377517234 : True := trivial
theorem Mine.law_all.tw5407152262560994199 : True := trivial
theorem Mine.law_all.tw1038885855152599283 : True := trivial
theorem Mine.law_all.tw8858638111541304496 : True := trivial
theorem Mine.law_all.tw7757124845224084579 : True := trivial
theorem Mine.law_all.tw18437768301239656569 : True := trivial
theorem Mine.law_all.tw14142368258859480080 : True := trivial
theorem Mine.law_all.tw16164118054612635186 : True := trivial
theorem Mine.law_all.tw7297819598837024618 : True := trivial
theorem Mine.law_all.tw3896677248486430384 : True := trivial
theorem Mine.law_all.tw9741297799410488584 : True := trivial
theorem Mine.law_all.tw10143031176177733864 : True := trivial
theorem Mine.law_all.tw711021382710547372 : True := trivial
theorem Mine.law_all.tw15877617104253876215 : True := trivial
theorem Mine.law_all.tw17831633481768180021 : True := trivial
theorem Mine.law_all.tw11464865452401227656 : True := trivial
theorem Mine.law_all.tw9730515428898209248 : True := trivial
theorem Mine.law_all.tw18060540505946225395 : True := trivial
theorem Mine.law_all.tw11421492830896010466 : True := trivial
theorem Mine.law_all.tw15106878835201008470 : True := trivial
theorem Mine.law_all.tw4218093189155465367 : True := trivial
theorem Mine.law_all.tw16994514146051193508 : True := trivial
theorem Mine.law_all.tw15775596325662777338 : True := trivial
theorem Mine.law_all.tw11373430062764667247 : True := trivial
theorem Mine.law_all.tw3049941219963327188 : True := trivial
theorem Mine.law_all.tw16625629747186990877 : True := trivial
theorem Mine.law_all.tw6818535541638068524 : True := trivial
theorem Mine.law_all.tw3944966475094738777 : True := trivial
theorem Mine.law_all.tw17964100949573051663 : True := trivial
theorem Mine.law_all.tw2919649542600381882 : True := trivial
theorem Mine.law_all.tw15090710645362110852 : True := trivial
theorem Mine.law_all.tw5234447947421495549 : True := trivial
theorem Mine.law_all.tw7817977360859998167 : True := trivial
theorem Mine.law_all.tw265244927588178289 : True := trivial
theorem Mine.law_all.tw10586219493256288171 : True := trivial
theorem Mine.law_all.tw7554247435833788720 : True := trivial
theorem Mine.law_all.tw10423822332596533971 : True := trivial
theorem Mine.law_all.tw11090485264053204359 : True := trivial
theorem Mine.law_all.tw3669051535078491162 : True := trivial
theorem Mine.law_all.tw18135408350670230780 : True := trivial
theorem Mine.law_all.tw10938250296463516022 : True := trivial
theorem Mine.law_all.tw17461023701970706658 : True := trivial
theorem Mine.law_all.tw196974008228917347 : True := trivial
theorem Mine.law_all.tw14831206303057345538 : True := trivial
theorem Mine.law_all.tw7247926347573934118 : True := trivial
theorem Mine.law_all.tw7224549994232214638 : True := trivial
theorem Mine.law_all.tw15121837243256198043 : True := trivial
theorem Mine.law_all.tw8410422384732016249 : True := trivial
theorem Mine.law_all.tw7188791813448049371 : True := trivial
theorem Mine.law_all.tw10416063536870402424 : True := trivial
theorem Mine.law_all.tw2982699944288580842 : True := trivial
theorem Mine.law_all.tw10635536241202982537 : True := trivial
theorem Mine.law_all.tw4607750278909125284 : True := trivial
theorem Mine.law_all.tw2135314059674174450 : True := trivial
theorem Mine.law_all.tw9992796612143662886 : True := trivial
theorem Mine.law_all.tw13446384164382990572 : True := trivial
theorem Mine.law_all.tw4767544424974957542 : True := trivial
theorem Mine.law_all.tw8820261365336496098 : True := trivial
theorem Mine.law_all.tw14636622166468137105 : True := trivial
theorem Mine.law_all.tw14969216848811132704 : True := trivial
theorem Mine.law_all.tw4469509312023483314 : True := trivial
theorem Mine.law_all.tw3241033389818516246 : True := trivial
theorem Mine.law_all.tw10240734782212473332 : True := trivial
theorem Mine.law_all.tw10247251320241082336 : True := trivial
theorem Mine.law_all.tw17970757394946253910 : True := trivial
theorem Mine.law_all.tw17811419955406721850 : True := trivial
theorem Mine.law_all.tw3261250254779219729 : True := trivial
theorem Mine.law_all.tw18271015955350124165 : True := trivial
theorem Mine.law_all.tw15161120417280960535 : True := trivial
theorem Mine.law_all.tw1216541509919387563 : True := trivial
theorem Mine.law_all.tw2525653633432605389 : True := trivial
theorem Mine.law_all.tw17994726235332625280 : True := trivial
theorem Mine.law_all.tw4640835974096237147 : True := trivial
theorem Mine.law_all.tw5415215016402467412 : True := trivial
theorem Mine.law_all.tw11572952145666636933 : True := trivial
theorem Mine.law_all.tw15421611283047414692 : True := trivial
theorem Mine.law_all.tw7982698399765186325 : True := trivial
theorem Mine.law_all.tw5007728179111998763 : True := trivial
theorem Mine.law_all.tw743412211500013303 : True := trivial
theorem Mine.law_all.tw17138794587834298416 : True := trivial
theorem Mine.law_all.tw5113565536986230370 : True := trivial
theorem Mine.law_all.tw16611412123790042429 : True := trivial
theorem Mine.law_all.tw14375837930296264146 : True := trivial
theorem Mine.law_all.tw9339400996390342628 : True := trivial
theorem Mine.law_all.tw6250623550151289363 : True := trivial
theorem Mine.law_all.tw7979492120457570264 : True := trivial
theorem Mine.law_all.tw14448975606232184337 : True := trivial
theorem Mine.law_all.tw14038700456328504219 : True := trivial
theorem Mine.law_all.tw8998419837362456327 : True := trivial
theorem Mine.law_all.tw1469086916834449242 : True := trivial
theorem Mine.law_all.tw2394756045033803996 : True := trivial
theorem Mine.law_all.tw7292434958787203408 : True := trivial
theorem Mine.law_all.tw17870765948467921550 : True := trivial
theorem Mine.law_all.tw4971525033006987312 : True := trivial
theorem Mine.law_all.tw17413550076941298003 : True := trivial
theorem Mine.law_all.tw11316630271383740818 : True := trivial
theorem Mine.law_all.tw7470513268851451213 : True := trivial
theorem Mine.law_all.tw8636992181308737738 : True := trivial
theorem Mine.law_all.tw9285932881680792518 : True := trivial
theorem Mine.law_all.tw12485393647227945402 : True := trivial
theorem Mine.law_all.tw3694351898582876921 : True := trivial
theorem Mine.law_all.tw3053660256275331401 : True := trivial
theorem Mine.law_all.tw12426150187355495272 : True := trivial
theorem Mine.law_all.tw34981568851968291 : True := trivial
theorem Mine.law_all.tw1485154726033263068 : True := trivial
theorem Mine.law_all.tw3907663706730131783 : True := trivial
theorem Mine.law_all.tw4676387156939204929 : True := trivial
theorem Mine.law_all.tw1770321641891747666 : True := trivial
theorem Mine.law_all.tw8144562630861866219 : True := trivial
theorem Mine.law_all.tw1941046448484579991 : True := trivial
theorem Mine.law_all.tw498969334165971575 : True := trivial
theorem Mine.law_all.tw16802804513485658213 : True := trivial
theorem Mine.law_all.tw7244142420057014546 : True := trivial
theorem Mine.law_all.tw5331902312086228352 : True := trivial
theorem Mine.law_all.tw1809502294756820286 : True := trivial
theorem Mine.law_all.tw1678774688637317811 : True := trivial
theorem Mine.law_all.tw9881681013793774600 : True := trivial
theorem Mine.law_all.tw2154737406897626791 : True := trivial
theorem Mine.law_all.tw15845778499796225489 : True := trivial
theorem Mine.law_all.tw11836482064631991793 : True := trivial
theorem Mine.law_all.tw18041836178462933985 : True := trivial
theorem Mine.law_all.tw17585104241551753366 : True := trivial
theorem Mine.law_all.tw17491269327052831879 : True := trivial
theorem Mine.law_all.tw6567813324483764927 : True := trivial
theorem Mine.law_all.tw7658680413803366864 : True := trivial
theorem Mine.law_all.tw5046676412343541489 : True := trivial
theorem Mine.law_all.tw17293483708993535449 : True := trivial
theorem Mine.law_all.tw15627020587669677704 : True := trivial
theorem Mine.law_all.tw17610193108198147946 : True := trivial
theorem Mine.law_all.tw16610364562264112213 : True := trivial
theorem Mine.law_all.tw1155645803786910667 : True := trivial
theorem Mine.law_all.tw17213418721671049187 : True := trivial
theorem Mine.law_all.tw17238692654854937651 : True := trivial
theorem Mine.law_all.tw18424452837839797475 : True := trivial
theorem Mine.law_all.tw8810683771702325575 : True := trivial
theorem Mine.law_all.tw14978941665995686438 : True := trivial
theorem Mine.law_all.tw8728232868735216457 : True := trivial
theorem Mine.law_all.tw2081400668093259977 : True := trivial
theorem Mine.law_all.tw12074057436302401830 : True := trivial
theorem Mine.law_all.tw6495852183210934563 : True := trivial
theorem Mine.law_all.tw17633126580248655646 : True := trivial
theorem Mine.law_all.tw18024192373445878068 : True := trivial
theorem Mine.law_all.tw4179209112946984403 : True := trivial
theorem Mine.law_all.tw14832577517017574144 : True := trivial
theorem Mine.law_all.tw18057137985718396609 : True := trivial
theorem Mine.law_all.tw11404586228399824523 : True := trivial
theorem Mine.law_all.tw5964670041877113058 : True := trivial
theorem Mine.law_all.tw10355209187767673200 : True := trivial
theorem Mine.law_all.tw11688695010476522603 : True := trivial
theorem Mine.law_all.tw5970844899898935343 : True := trivial
theorem Mine.law_all.tw17009404168889603793 : True := trivial
theorem Mine.law_all.tw12857768353395258856 : True := trivial
theorem Mine.law_all.tw1462358456018306731 : True := trivial
theorem Mine.law_all.tw5591302951066050737 : True := trivial
theorem Mine.law_all.tw3206805621277776192 : True := trivial
theorem Mine.law_all.tw5176073063277498486 : True := trivial
theorem Mine.law_all.tw4527195061187594670 : True := trivial
set_option Elab.async true in
theorem Mine.law_all : PySem.Challenge.rw_kq0019_05.Holds := by
  w_on
  o_law
  o_head (kHook Mine.hd.heap_1 [2, 3, 33, 35, 36, 38, 39, 40, 42, 43, 45, 46, 47, 49, 50, 52, 53, 54, 61, 62, 63, 64, 74, 76, 77, 79, 80, 81, 82, 83, 84, 85, 86, 89, 96, 97, 98, 101, 108, 109, 110, 113, 120, 121, 123, 124, 126, 127, 128, 130, 131, 133, 134, 135, 137, 138, 140, 141, 142, 144, 145, 147, 148, 149, 150, 152, 153, 155, 156, 157, 159, 160, 162, 163, 164, 166, 167, 169, 170, 171, 173, 174, 176, 177, 178, 180, 181, 183, 184, 185, 187, 188, 190, 191, 192, 194, 195, 197, 198, 199, 201, 202, 204, 205, 206, 208, 209, 211, 212, 213, 215, 216, 218, 219, 220, 222, 223, 225, 226, 227, 229, 230, 232, 233, 234, 236, 237, 239, 240, 241, 242, 244, 245, 247, 248, 249, 250, 252, 253, 255, 256, 257, 258, 260, 261, 263, 264, 265, 266, 268, 269, 271, 272, 273, 275, 276, 278, 279, 280, 282, 283, 285, 286, 287, 288, 290, 291, 293, 294, 295, 296, 298, 299, 301, 302, 303, 305, 306, 308, 309, 310, 312, 313, 315, 316, 317, 319, 320, 322, 323, 324, 326, 327, 329, 330, 331, 333, 334, 336, 337, 338, 339, 340, 343, 350, 351, 353, 354, 356, 357, 358, 360, 361, 363, 364, 365, 367, 368, 370, 371, 372, 374, 375, 377, 378, 379, 381, 382, 384, 385, 386, 388, 389, 391, 392, 393, 394, 396, 397, 399, 400, 401, 402, 404, 405, 407, 408, 409, 410, 412, 413, 415, 416, 417, 418, 420, 421, 423, 424, 425, 426, 428, 429, 431, 432, 433, 435, 436, 438, 439, 440, 442, 443, 445, 446, 447, 449, 450, 452, 453, 454, 456, 457, 459, 460, 461, 463, 464, 466, 467, 468, 470, 471, 473, 474, 475, 477, 478, 480, 481, 482, 484, 485, 487, 488, 489, 491, 492, 494, 495, 496, 498, 499, 501, 502, 503, 505, 506, 508, 509, 510, 511, 513, 514, 516, 517, 518, 519, 521, 522, 524, 525, 526, 527, 529, 530, 532, 533, 534, 535, 537, 538, 540, 541, 542, 543, 545, 546, 548, 549, 550, 552, 553, 555, 556, 557, 559, 560, 562, 563, 564, 566, 567, 569, 570, 571, 573, 574, 576, 577, 578, 580, 581, 583, 584, 585, 586, 587, 590, 592, 593, 595, 596, 597, 599, 600, 602, 603, 604, 606, 607, 609, 610, 611, 613, 614, 616, 617, 618, 620, 621, 623, 624, 625, 627, 628, 630, 631, 639, 640, 642, 643, 645, 646, 647, 649, 650, 652, 653, 654, 655, 657, 658, 660, 661, 662, 663, 665, 666, 668, 669, 670, 672, 673, 675, 676, 677, 679, 680, 682, 683, 684, 686, 687, 689, 690, 691, 693, 694, 696, 697, 698, 699, 701, 702, 704, 705, 706, 708, 709, 711, 712, 713, 715, 716, 718, 719, 720, 721, 722, 723, 724, 727, 729, 730, 732, 733, 734, 736, 737, 739, 740, 741, 743, 744, 746, 747, 748, 751, 752] (fun _ => by kernel_rfl))
  (case hw => w_witness2)
  (apply Mine.free; (case a => exact trivial); (case b => exact trivial); (case c => exact trivial); (case d => exact trivial); (case e => exact trivial); (case f => exact trivial); (case g => exact trivial); (case h => exact trivial); (case i => exact trivial); (case j => exact trivial); (case k => exact trivial); (case l => exact trivial); (case m => exact trivial); (case n => exact trivial); (case o => exact trivial); (case q => exact trivial); (case r => exact trivial); (case s => exact trivial); (case t => exact trivial); (case u => exact trivial); (case v => exact trivial); (case w => exact trivial); (case x => exact trivial); (case y => exact trivial); (case z => exact trivial); (case A => exact trivial); (case B => exact trivial); (case C => exact trivial); (case D => exact trivial); (case E => exact trivial); (case F => exact trivial); (case G => exact trivial); (case H => exact trivial); (case I => exact trivial); (case J => exact trivial); (case K => exact trivial); (case L => exact trivial); (case M => exact trivial); (case N => exact trivial); (case O => exact trivial); (case P => exact trivial); (case Q => exact trivial); (case R => exact trivial); (case S => exact trivial); (case T => exact trivial); (case U => exact trivial); (case V => exact trivial); (case W => exact trivial); (case X => exact trivial); (case Y => exact trivial); (case Z => exact trivial); (case e1 => exact trivial); (case e2 => exact trivial); (case e3 => exact trivial); (case e4 => exact trivial); (case e5 => exact trivial); (case e6 => exact trivial); (case e7 => exact trivial); (case e8 => exact trivial); (case e9 => exact trivial); (case e10 => exact trivial); (case k1 => exact trivial); (case k2 => exact trivial); (case k3 => exact trivial); (case k4 => exact trivial); (case k5 => exact trivial); (case k6 => exact trivial); (case k7 => exact trivial); (case k8 => exact trivial); (case k9 => exact trivial); (case k10 => exact trivial); (case k11 => exact trivial); (case k12 => exact trivial); (case k13 => exact trivial); (case k14 => exact trivial); (case k15 => exact trivial); (case h1 => exact trivial); (case h2 => exact trivial); (case h3 => exact trivial); (case h4 => exact trivial); (case h5 => exact trivial); (case h6 => exact trivial); (case hr => exact trivial); (case hp => exact trivial); (case hi => exact trivial); (case hv => exact trivial); (case hz => exact trivial); (case sz => exact trivial); (case sub => exact trivial); (case hQ => exact trivial); (case hE => exact trivial); (case hP => exact trivial); (case hC => exact trivial); (case hx => exact trivial); (case ka => exact trivial); (case kb => exact trivial))
  k_go0
  all_goals try k_fold
  refine Mine.post_genF ?_
  intro Qv hQv
  (repeat' (first | (k_unfold; (try dsimp only)) | ((fail_if_success (with_reducible show wpAny _ _ (execs (Stmt.If _ _ _ _ :: _) _) _ _ _)); walk1)))
  rename World => w
  rename Fr _ _ _ _ => F1
  rename News _ _ _ _ => N1
  rename IntsAre _ _ => hi1
  refine Mine.lw5_if F1 ?h1 ?h2
  case h1 =>
    k_steps
    · refine' Mine.lw5_mid ?F ?N ?i ?e1 ?e2 ?e3 ?sub
      case F => assumption
      case N => assumption
      case e3 => exact if_pos rfl
      case sub => exact List.Mem.head _
      case i => exact .cons 0 _ .nil
      case e1 => simp
      case e2 => simp
    · refine' Mine.lw5_mid ?F ?N ?i ?e1 ?e2 ?e3 ?sub
      case F => assumption
      case N => assumption
      case e3 => exact if_pos rfl
      case sub => exact List.Mem.tail _ (List.Mem.head _)
      case i => exact hi1
      case e1 => exact of_decide_eq_false (by assumption)
      case e2 => simp only [List.length_map]; omega
  case h2 =>
    clear F1 N1 hi1
    intro h2 tk2 D vs nums nn m2 F2 N2 hi2 hne2 hlen2
    cases hi2 with
    | nil => exact absurd rfl hne2
    | cons n0 t0 hi2 =>
    rename List Value => vs0
    rename List Int => ns0
    (apply Mine.free; (case a => exact trivial); (case b => exact trivial); (case c => exact trivial); (case d => exact trivial); (case e => exact trivial); (case f => exact trivial); (case g => exact trivial); (case h => exact trivial); (case i => exact trivial); (case j => exact trivial); (case k => exact trivial); (case l => exact trivial); (case m => exact trivial); (case n => exact trivial); (case o => exact trivial); (case q => exact trivial); (case r => exact trivial); (case s => exact trivial); (case t => exact trivial); (case u => exact trivial); (case v => exact trivial); (case w => exact trivial); (case x => exact trivial); (case y => exact trivial); (case z => exact trivial); (case A => exact trivial); (case B => exact trivial); (case C => exact trivial); (case D => exact trivial); (case E => exact trivial); (case F => exact trivial); (case G => exact trivial); (case H => exact trivial); (case I => exact trivial); (case J => exact trivial); (case K => exact trivial); (case L => exact trivial); (case M => exact trivial); (case N => exact trivial); (case O => exact trivial); (case P => exact trivial); (case Q => exact trivial); (case R => exact trivial); (case S => exact trivial); (case T => exact trivial); (case U => exact trivial); (case V => exact trivial); (case W => exact trivial); (case X => exact trivial); (case Y => exact trivial); (case Z => exact trivial); (case e1 => exact trivial); (case e2 => exact trivial); (case e3 => exact trivial); (case e4 => exact trivial); (case e5 => exact trivial); (case e6 => exact trivial); (case e7 => exact trivial); (case e8 => exact trivial); (case e9 => exact trivial); (case e10 => exact trivial); (case k1 => exact trivial); (case k2 => exact trivial); (case k3 => exact trivial); (case k4 => exact trivial); (case k5 => exact trivial); (case k6 => exact trivial); (case k7 => exact trivial); (case k8 => exact trivial); (case k9 => exact trivial); (case k10 => exact trivial); (case k11 => exact trivial); (case k12 => exact trivial); (case k13 => exact trivial); (case k14 => exact trivial); (case k15 => exact trivial); (case h1 => exact trivial); (case h2 => exact trivial); (case h3 => exact trivial); (case h4 => exact trivial); (case h5 => exact trivial); (case h6 => exact trivial); (case hr => exact trivial); (case hp => exact trivial); (case hi => exact trivial); (case hv => exact trivial); (case hz => exact trivial); (case sz => exact trivial); (case sub => exact trivial); (case hQ => exact trivial); (case hE => exact trivial); (case hP => exact trivial); (case hC => exact trivial); (case hx => exact trivial); (case ka => exact trivial); (case kb => exact trivial))
    (repeat' (first | (k_unfold; (try dsimp only)) | ((fail_if_success (with_reducible show wpAny _ _ (exec (Stmt.Assign [Expr.Name ("mark" : Str) _] _ _) _) _ _ _)); walk1)))

    obtain ⟨k, hk4, hkk⟩ := Mine.mod4 ((n0 :: ns0).getD (Int.toNat 0) 0)
    rename Fr _ _ _ _ => F3
    rename News _ _ _ _ => N3
    simp only [hkk] at F3
    walk1
    refine Mine.val_mid (fun v tk => ∃ q t, v = .str (Mine.S [q]) t ∧ Mine.isM q ∧ (k = 2 → q = 39) ∧ (k = 3 → q = 34) ∧ @LT.lt Nat _ 0 t ∧ @LT.lt Nat _ t tk) F3 N3 ?e1 ?e2
    case e1 =>
      k_steps
      all_goals (rename Fr _ _ _ _ => F5; rename News _ _ _ _ => N5; refine Mine.vp_mk F5 N5 (by first | exact fun p hp => hp | exact (fun p hp => List.Mem.tail _ hp)) ?_)
      · exact Mine.mark_a (Mine.kx (by assumption) rfl) (Mine.kx (by assumption) rfl) (Nat.succ_pos _) (by repeat (first | exact Nat.lt_succ_self _ | refine Nat.lt_succ_of_lt ?_))
      · exact Mine.mark_a (Mine.kx (by assumption) rfl) (Mine.kx (by assumption) rfl) (Nat.succ_pos _) (by repeat (first | exact Nat.lt_succ_self _ | refine Nat.lt_succ_of_lt ?_))
      · exact Mine.mark_b (.inl ⟨rfl, rfl⟩) (fun _ => rfl) (fun h => absurd h (Mine.kx (by assumption) rfl)) (Nat.succ_pos _) (by repeat (first | exact Nat.lt_succ_self _ | refine Nat.lt_succ_of_lt ?_))
      · exact Mine.mark_b (.inr ⟨rfl, rfl⟩) (fun h => absurd h (Mine.kx (by assumption) rfl)) (fun _ => rfl) (Nat.succ_pos _) (by repeat (first | exact Nat.lt_succ_self _ | refine Nat.lt_succ_of_lt ?_))
    case e2 =>
      rintro _ h5 tk5 ⟨q, tq, rfl, hq, hq2, hq3, htq0, htq⟩ htk5 F5 N5
      clear F3 N3
      (repeat' (first | (k_unfold; (try dsimp only)) | ((fail_if_success (with_reducible show wpAny _ _ (exec (Stmt.Assign [Expr.Subscript _ _ _] _ _) _) _ _ _)); walk1)))
      rename Fr _ _ _ _ => F6
      obtain ⟨sp, hsp⟩ : ∃ z, ((((n0 :: ns0).getD (Int.toNat 0) 0).fdiv 8).fmod 2 == 1) = z := ⟨_, rfl⟩
      obtain ⟨pn, hpn⟩ : ∃ z, ((((n0 :: ns0).getD (Int.toNat 0) 0).fdiv 16).fmod 2 == 1) = z := ⟨_, rfl⟩
      rw [hsp, hpn] at F6
      clear hsp hpn
      (repeat' (first | (k_unfold; (try dsimp only)) | ((fail_if_success (with_reducible show wpAny _ _ (call (Value.ref 733) _) _ _ _)); walk1)))
      refine Mine.any_toks ?_
      refine' Mine.draw5 ?k1 ?k2 ?k3 ?k4 ?k5 ?k6 (.cons _ _ hi2) ?k7 ?k8 ?_
      case k8 => k_asm
      case k1 => k_asm
      case k2 => k_asm
      case k3 => k_asm
      case k4 => k_asm
      case k5 => k_room
      case k6 => k_units
      case k7 => simpa using hlen2
      intro h7 hd st inn t1 t2 t3 k7 q7 F7 N7 hH hB hI hlen htk7
      (try clear F6)
      (repeat' (first | (k_unfold; (try dsimp only)) | ((fail_if_success (with_reducible show wpAny _ _ (call (Value.builtin "str.replace") _) _ _ _)); walk1)))
      dsimp only at htk5 htk7
      have htq7 : @LT.lt Nat _ tq (k7 + 1) := Nat.lt_succ_of_lt (Nat.lt_of_lt_of_le htq (Nat.le_trans (by repeat (first | exact Nat.le_refl _ | refine Nat.le_succ_of_le ?_)) htk7))
      obtain ⟨bh, bs, bi, hlen'⟩ := Mine.len360 (n0 :: ns0) hlen (by simpa using hlen2)
      refine Mine.any_toks ?_
      refine Mine.rep_one (Nat.pos_iff_ne_zero.mp htq0) (Nat.succ_ne_zero _) (Nat.ne_of_lt (Nat.lt_of_lt_of_le htq7 (by repeat (first | exact Nat.le_refl _ | refine Nat.le_succ_of_le ?_)))) (Mine.lz bi rfl) ?_
      intro t9 k9 htk9
      dsimp only at htk9
      (repeat' (first | (k_unfold; (try dsimp only)) | ((fail_if_success (with_reducible show wpAny _ _ (execs (Stmt.If _ _ _ _ :: _) _) _ _ _)); walk1)))
      rename Fr _ _ _ _ => F9
      (try dsimp only)
      refine Mine.st_mid (fun m' l tk => ∃ inn2 t1 t2 t3 t4 t5, Mine.Has m' (Mine.psA k q sp pn (hd ++ [32]) st inn2 t1 t2 t3 t4 t5) ∧ l = [] ∧ (∀ c ∈ inn2, c ≠ q ∧ (decide (0 < k) && Mine.isE c && Mine.isD q) = false) ∧ (∀ c ∈ inn2, c < 1114112) ∧ inn2.length ≤ inn.length ∧ 0 < tk) F9 ?f1 ?f2
      case f1 =>
        cases hq34 : (q == 34) with
        | true =>
          (repeat' (first | (k_unfold; (try dsimp only)) | ((fail_if_success (with_reducible show wpAny _ _ (call (Value.builtin "str.replace") _) _ _ _)); walk1)))
          · refine Mine.rep_bs (Nat.succ_ne_zero _) (Nat.succ_ne_zero _) (Nat.ne_of_lt (by repeat (first | exact Nat.lt_succ_self _ | refine Nat.lt_succ_of_lt ?_))) (Nat.le_trans (List.length_filter_le _ _) (Mine.lz bi rfl)) ?_
            intro t10 k10
            k_steps
            rename Fr _ _ _ _ => F10
            rename News _ _ _ _ => N10
            refine Mine.sp_mk (l' := []) F10 N10 (fun p hp => nomatch hp) ⟨_, _, _, _, _, _, Mine.has7 rfl rfl rfl rfl rfl rfl rfl, rfl, Mine.inn_t (beq_iff_eq.mp hq34), fun c hc => hI c (List.mem_filter.mp (List.mem_filter.mp hc).1).1, Nat.le_trans (List.length_filter_le _ _) (List.length_filter_le _ _), ?_⟩
            exact Nat.succ_pos _
          · rename Fr _ _ _ _ => F10
            rename News _ _ _ _ => N10
            refine Mine.sp_mk (l' := []) F10 N10 (fun p hp => nomatch hp) ⟨_, _, _, _, _, _, Mine.has7 rfl rfl rfl rfl rfl rfl rfl, rfl, Mine.inn_k (Mine.k_pos (by assumption)), fun c hc => hI c (List.mem_filter.mp hc).1, List.length_filter_le _ _, Nat.succ_pos _⟩
        | false =>
          k_steps
          · rename Fr _ _ _ _ => F10
            rename News _ _ _ _ => N10
            refine Mine.sp_mk (l' := []) F10 N10 (fun p hp => nomatch hp) ⟨_, _, _, _, _, _, Mine.has7 rfl rfl rfl rfl rfl rfl rfl, rfl, Mine.inn_f hq hq34, fun c hc => hI c (List.mem_filter.mp hc).1, List.length_filter_le _ _, Nat.succ_pos _⟩
          · rename Fr _ _ _ _ => F10
            rename News _ _ _ _ => N10
            refine Mine.sp_mk (l' := []) F10 N10 (fun p hp => nomatch hp) ⟨_, _, _, _, _, _, Mine.has7 rfl rfl rfl rfl rfl rfl rfl, rfl, Mine.inn_f hq hq34, fun c hc => hI c (List.mem_filter.mp hc).1, List.length_filter_le _ _, Nat.succ_pos _⟩
      case f2 =>
        rintro m11 _ h11 tk11 ⟨inn2, t11, t12, t13, t14, t15, e11, rfl, hi2, hI2, hil2, htk11⟩ - F11 N11
        clear F9
        obtain ⟨m12, F12⟩ := Mine.kst_intro F11 e11
        clear F11 e11
        (repeat' (first | (k_unfold; (try dsimp only)) | ((fail_if_success (with_reducible show wpAny _ _ (execs (Stmt.If _ _ _ _ :: _) _) _ _ _)); walk1)))
        (try dsimp only)
        refine Mine.st_mid (fun m' l tk => ∃ hd2 st2 t1 t2 t3 t4 t5, Mine.Has m' (Mine.psA k q sp pn (hd2 ++ [32]) st2 inn2 t1 t2 t3 t4 t5) ∧ l = [] ∧ (∀ c ∈ hd2, Mine.H5 c) ∧ (∀ c ∈ st2, Mine.B5 c) ∧ (k = 0 → st2 = []) ∧ hd2.length + st2.length ≤ 400) F12 ?g1 ?g2
        case g1 =>
          k_steps
          · rename Fr _ _ _ _ => F13
            rename News _ _ _ _ => N13
            refine Mine.sp_mk (l' := []) F13 N13 (fun p hp => nomatch hp) ⟨hd ++ [32] ++ st, [], _, _, _, _, _, Mine.has7 rfl (congrArg (fun z => some (Value.str z _)) Mine.S_nil) rfl rfl rfl rfl rfl, rfl, Mine.h5_join hH hB, (fun c hc => nomatch hc), fun _ => rfl, Mine.g_a hlen'⟩
          · rename Fr _ _ _ _ => F13
            rename News _ _ _ _ => N13
            refine Mine.sp_mk (l' := []) F13 N13 (fun p hp => nomatch hp) ⟨hd, st, _, _, _, _, _, Mine.has7 rfl rfl rfl rfl rfl rfl rfl, rfl, hH, hB, fun h => Mine.k_ne0 (by assumption) h, Mine.g_b hlen'⟩
        case g2 =>
          rintro m13 _ h13 tk13 ⟨hd2, st2, t21, t22, t23, t24, t25, e13, rfl, hH2, hB2, h0, hl2⟩ - F13 N13
          clear F12
          obtain ⟨m14, F14⟩ := Mine.kst_intro F13 e13
          have bh2 := Nat.le_trans (Nat.le_add_right hd2.length st2.length) hl2
          have bs2 := Nat.le_trans (Nat.le_add_left st2.length hd2.length) hl2
          have bi2 := Nat.le_trans hil2 bi
          clear F13 e13
          (repeat' (first | (k_unfold; (try dsimp only)) | ((fail_if_success (with_reducible show wpAny _ _ (eval (Expr.BinOp _ _ _ _) _) _ _ _)); walk1)))
          (try dsimp only)
          refine Mine.val_mid (fun v tk => ∃ t, v = .str (Mine.S (hd2 ++ [32] ++ st2 ++ [q] ++ inn2 ++ Mine.tl5 k)) t) F14 N13 ?i1 ?i2
          case i1 =>
            k_steps
            all_goals (rename Fr _ _ _ _ => F15; rename News _ _ _ _ => N15; refine Mine.vp_mk F15 N15 (fun p hp => nomatch hp) ?_)
            · exact ⟨_, congrArg (fun z => Value.str (Mine.S (hd2 ++ [32] ++ st2 ++ [q] ++ inn2 ++ z)) _) (Mine.tl_0 (k := k) (by first | exact .inl (Mine.ck (by assumption)) | exact .inr (Mine.ck (by assumption)))).symm⟩
            · exact ⟨_, congrArg (fun z => Value.str (Mine.S (hd2 ++ [32] ++ st2 ++ [q] ++ inn2 ++ z)) _) (Mine.tl_0 (k := k) (by first | exact .inl (Mine.ck (by assumption)) | exact .inr (Mine.ck (by assumption)))).symm⟩
            · exact ⟨_, congrArg (fun z => Value.str (Mine.S (hd2 ++ [32] ++ st2 ++ [q] ++ inn2 ++ z)) _) (Mine.tl_2 (k := k) (Mine.ck (by assumption))).symm⟩
            · exact ⟨_, congrArg (fun z => Value.str (Mine.S (hd2 ++ [32] ++ st2 ++ [q] ++ inn2 ++ z)) _) (Mine.tl_3 (k := k) (Mine.ck (by assumption))).symm⟩
          case i2 =>
            rintro _ h16 tk16 ⟨t16, rfl⟩ - F16 N16
            (repeat' (first | (k_unfold; (try dsimp only)) | ((fail_if_success (with_reducible show wpAny _ _ (eval (Expr.IfExp _ _ _ _) _) _ _ _)); walk1)))
            (try dsimp only)
            rename Fr _ _ _ _ => F17
            rename News _ _ _ _ => N17
            refine Mine.val_mid (fun v tk => ∃ t, v = .str (Mine.S (Mine.held5 k q st2 inn2)) t) F17 N17 ?j1 ?j2
            case j1 =>
              k_steps
              all_goals (rename Fr _ _ _ _ => F15; rename News _ _ _ _ => N15; refine Mine.vp_mk F15 N15 (fun p hp => nomatch hp) ?_)
              · exact ⟨_, congrArg (fun z => Value.str (Mine.S z) _) (if_pos (Mine.ck (by assumption))).symm⟩
              · exact ⟨_, congrArg (fun z => Value.str (Mine.S z) _) (if_neg (Mine.k_ne0' (by assumption))).symm⟩
            case j2 =>
              rintro _ h18 tk18 ⟨t18, rfl⟩ - F18 N18
              (repeat' (first | (k_unfold; (try dsimp only)) | ((fail_if_success (with_reducible show wpAny _ _ (eval (Expr.IfExp _ _ _ _) _) _ _ _)); walk1)))
              (try dsimp only)
              rename Fr _ _ _ _ => F19
              rename News _ _ _ _ => N19
              refine Mine.val_mid (fun v tk => ∃ t, v = .str (Mine.msgP (Mine.fs5 k q)) t) F19 N19 ?l1 ?l2
              case l1 =>
                k_steps
                all_goals (rename Fr _ _ _ _ => F15; rename News _ _ _ _ => N15; refine Mine.vp_mk F15 N15 (fun p hp => nomatch hp) ?_)
                · exact Mine.msg_q (Mine.k_lt2 (by assumption))
                · exact Mine.msg_e (Mine.k_ge2 (by assumption))
              case l2 =>
                rintro _ h20 tk20 ⟨t20, rfl⟩ - F20 N20
                (repeat' (first | (k_unfold; (try dsimp only)) | ((fail_if_success (with_reducible show wpAny _ _ (eval (Expr.IfExp _ _ _ _) _) _ _ _)); walk1)))
                (try dsimp only)
                rename Fr _ _ _ _ => F21
                rename News _ _ _ _ => N21
                refine Mine.val_mid (fun v tk => ∃ t, v = .str (Mine.S [Mine.st5 k q]) t) F21 N21 ?o1 ?o2
                case o1 =>
                  k_steps
                  all_goals (rename Fr _ _ _ _ => F15; rename News _ _ _ _ => N15; refine Mine.vp_mk F15 N15 (fun p hp => nomatch hp) ?_)
                  · exact ⟨_, congrArg (fun z => Value.str (Mine.S [z]) _) (if_pos (Mine.k_lt2 (by assumption))).symm⟩
                  · exact ⟨_, (congrArg (fun z => Value.str z _) Mine.bs_S).trans (congrArg (fun z => Value.str (Mine.S [z]) _) (if_neg (Mine.k_ge2 (by assumption))).symm)⟩
                case o2 =>
                  rintro _ h22 tk22 ⟨t22, rfl⟩ - F22 N22
                  (repeat' (first | (k_unfold; (try dsimp only)) | ((fail_if_success (with_reducible show wpAny _ _ (call (Value.builtin "str.count") _) _ _ _)); walk1)))
                  refine Mine.count_nl ?_
                  intro t23 k23
                  (repeat' (first | (k_unfold; (try dsimp only)) | ((fail_if_success (with_reducible show wpAny _ _ (execs (Stmt.Assign [Expr.Name ("lex" : Str) _] _ _ :: _) _) _ _ _)); walk1)))
                  (try dsimp only)
                  rename Fr _ _ _ _ => F23
                  rename News _ _ _ _ => N23
                  obtain ⟨TX, hTX⟩ : ∃ z, hd2 ++ [32] ++ st2 ++ [q] ++ inn2 ++ Mine.tl5 k = z := ⟨_, rfl⟩
                  have hlTX : TX.length ≤ 2000 := by
                    rw [← hTX]
                    exact Mine.lz (Mine.la (Mine.la (Mine.la (Mine.la (Mine.la bh2 Mine.l1) bs2) Mine.l1) bi2) (Mine.tl_len k)) rfl
                  rw [hTX] at F23 N23
                  obtain ⟨OD, hOD⟩ : ∃ z : Obj, ({ cls := .type "tuple", data := .seq #[.str (Mine.msgP (Mine.fs5 k q)) t20, .str (Mine.S [Mine.st5 k q]) t22, .str (Mine.S (Mine.held5 k q st2 inn2)) t18, .int (1 + Mine.nl5 TX) k23] } : Obj) = z := ⟨_, rfl⟩
                  obtain ⟨FL, hFL⟩ : ∃ z, (Mine.held5 k q st2 inn2, Mine.fs5 k q, 1 + Mine.nl5 TX) = z := ⟨_, rfl⟩
                  obtain ⟨b0, hb0⟩ : ∃ z, decide (0 < (k : Int)) = z := ⟨_, rfl⟩
                  rw [hOD] at N23
                  refine Mine.st_mid (fun m' l tk => ∃ D lx lg t3, Mine.Has m' [(Str.ofString "due", .ref D), (Str.ofString "lex", .ref lx), (Str.ofString "head", .str (Mine.S (hd2 ++ [32])) t3), (Str.ofString "split", .bool sp), (Str.ofString "punctuation", .bool pn)] ∧ l = lg ++ [(D, OD)] ∧ Mine.Cn5 w.params (Mine.S TX) pn b0 false lx lg ∧ Mine.Ap5 lg [(D, OD)]) F23 ?p1 ?p2
                  case p1 =>
                    rw [← hb0]
                    (repeat' (first | (k_unfold; (try dsimp only)) | ((fail_if_success (with_reducible show wpAny _ _ (call (Value.ref 722) _ _) _ _ _)); walk1)))
                    rename Fr _ _ _ _ => F24
                    rename News _ _ _ _ => N24
                    refine' Mine.ctor5 (pn := pn) ?k1 F24 ?k3 ?k4 ?k5 ?k6 (Mine.s_len hlTX rfl) N24 ?_ ?_
                    case k1 => k_asm
                    case k3 => k_asm
                    case k4 => k_asm
                    case k5 => k_room
                    case k6 => k_units
                    · intro hpn lx dx io iod pb fs h25 kt T ev t1 ts tl tt k25 F25 hev o1 o2 o3 o4 o5 a1 a2 a3 a4 N25
                      clear F24 N24
                      k_steps
                      rename Fr _ _ _ _ => F26
                      rename News _ _ _ _ => N26
                      refine Mine.sp_mk F26 N26 ?hs ⟨_, lx, _, _, Mine.has5 rfl rfl rfl rfl rfl, rfl, .N hpn kt T ev t1 ts tl tt dx io iod pb fs hev o1 o2 o3 o4 o5 rfl, Mine.ap_N o1 o2 o3 a1.1 a3.1 a4.1⟩
                      case hs => exact fun p hp => hp
                    · intro hpn lx dx io iod pb fs pc h25 kt T k19 ev t1 ts tl tt k25 F25 hev o1 o2 o3 o4 o5 o6 a1 a2 a3 a4 a5 N25
                      clear F24 N24
                      k_steps
                      rename Fr _ _ _ _ => F26
                      rename News _ _ _ _ => N26
                      refine Mine.sp_mk F26 N26 ?hs9 ⟨_, lx, _, _, Mine.has5 rfl rfl rfl rfl rfl, rfl, .P hpn kt T k19 ev t1 ts tl tt dx io iod pb fs pc hev o1 o2 o3 o4 o5 o6 rfl, Mine.ap_P o1 o2 o3 a1.1 a3.1 a4.1 a5.1⟩
                      case hs9 => exact fun p hp => hp
                  case p2 =>
                    rintro m27 _ h27 tk27 ⟨D, lx, lg, t3, e27, rfl, hC, hap⟩ - F27 N27
                    clear F23 N23
                    obtain ⟨m28, F28⟩ := Mine.kst_intro F27 e27
                    clear F27 e27
                    (try dsimp only)
                    refine Mine.st_mid (fun m' l tk => ∃ lg' t3, Mine.Has m' [(Str.ofString "due", .ref D), (Str.ofString "lex", .ref lx), (Str.ofString "head", .str (Mine.S (hd2 ++ [32])) t3), (Str.ofString "split", .bool sp), (Str.ofString "punctuation", .bool pn)] ∧ l = lg' ++ [(D, OD)] ∧ Mine.Cn5 w.params (Mine.S TX) pn b0 sp lx lg' ∧ Mine.Ap5 lg' [(D, OD)]) F28 ?q1 ?q2
                    case q1 =>
                      rcases hC with ⟨hpn, kt, T, ev, t1, ts, tl, tt, dx, io, iod, pb, fs, hev, o1, o2, o3, o4, o5, rfl⟩ | ⟨hpn, kt, T, k19, ev, t1, ts, tl, tt, dx, io, iod, pb, fs, pc, hev, o1, o2, o3, o4, o5, o6, rfl⟩
                      · have hDx : @Ne Nat D dx := hap (dx, _) (.tail _ (.tail _ (.tail _ (.tail _ (.head _))))) (D, _) (.head _)
                        obtain ⟨y1, y2, y3, y4, y5⟩ := Mine.ndx5 o1 o2 o3 o4 o5
                        dsimp only [Mine.cnN, List.cons_append, List.nil_append] at N27
                        k_steps
                        (try dsimp only)
                        k_steps
                        rename Fr _ _ _ _ => F26
                        rename News _ _ _ _ => N26
                        refine Mine.sp_mk F26 N26 ?hs5 ⟨Mine.cnN _ _ _ sp kt T ev t1 ts tl tt lx dx io iod pb fs, _, Mine.has5 rfl rfl rfl rfl rfl, rfl, .N hpn kt T ev t1 ts tl tt dx io iod pb fs hev o1 o2 o3 o4 o5 rfl, hap.same rfl⟩
                        case hs5 => exact fun p hp => hp
                      · have hDx : @Ne Nat D dx := hap (dx, _) (.tail _ (.tail _ (.tail _ (.tail _ (.head _))))) (D, _) (.head _)
                        obtain ⟨y1, y2, y3, y4, y5, y6⟩ := Mine.ndx6 o1 o2 o3 o4 o5 o6
                        dsimp only [Mine.cnP, List.cons_append, List.nil_append] at N27
                        k_steps
                        (try dsimp only)
                        k_steps
                        rename Fr _ _ _ _ => F26
                        rename News _ _ _ _ => N26
                        refine Mine.sp_mk F26 N26 ?hs6 ⟨Mine.cnP _ _ _ sp kt T k19 ev t1 ts tl tt lx dx io iod pb fs pc, _, Mine.has5 rfl rfl rfl rfl rfl, rfl, .P hpn kt T k19 ev t1 ts tl tt dx io iod pb fs pc hev o1 o2 o3 o4 o5 o6 rfl, hap.same rfl⟩
                        case hs6 => exact fun p hp => hp
                    case q2 =>
                      clear F28 N27 hap hC lg t3
                      rintro m29 _ h29 tk29 ⟨lg, t3, e29, rfl, hC, hap⟩ - F29 N29
                      obtain ⟨m30, F30⟩ := Mine.kst_intro F29 e29
                      clear F29 e29
                      have hT := Mine.law5_tk (sp := sp) (pn := pn) hk4 hq hq2 hq3 hH2 hB2 h0 hi2 (Mine.g_c hl2 bi2)
                      rw [hTX, ← Mine.k_dec, hb0, hFL] at hT
                      have hL := Mine.cn5_lex hC (by rw [Mine.S_codes]; exact hT)
                      clear hT hC
                      (repeat' (first | (k_unfold; (try dsimp only)) | ((fail_if_success (with_reducible show wpAny _ _ (call (Value.ref 740) _) _ _ _)); walk1)))
                      refine' Mine.ahead5 ?r1 ?r2 ?r3 ?r4 ?r5 ?r6 ?r7 ?r8 ?_
                      case r8 => k_asm
                      case r1 => k_asm
                      case r2 => k_asm
                      case r3 => k_asm
                      case r4 => k_asm
                      case r5 => k_room
                      case r6 => k_units
                      case r7 => exact Mine.lz (Mine.la bh2 Mine.l1) rfl
                      intro h31 ra rv rn k31 F31 N31 hra hsv
                      (try clear F30)
                      (try clear N29)
                      refine Mine.strs_loop (nn := rn) (σ := List (Addr × Obj)) (fun l => l ++ [(D, OD)]) (fun _ => [(Str.ofString "due", .ref D), (Str.ofString "lex", .ref lx)]) [] (Mine.P1 w.params (Mine.S TX) pn b0 sp lx (Mine.afold pn sp (hd2 ++ [32])).1 FL lg) lg rfl hsv F31 ?s0 (fun p hp => Nat.ne_of_lt (Mine.allLt_mem hra p hp)) ?s1 ?s2 ?s3 ?s4
                      case s0 => exact N31
                      case s1 => exact Mine.has2 rfl rfl
                      case s2 => exact ⟨[], _, rfl, rfl, hL, rfl⟩
                      case s3 =>
                        intro lg1 pre post n tn u h33 tk33 own hns hoff hP F33 N33
                        obtain ⟨tt, rm, rfl, hL1, hs1, hnx⟩ := Mine.p1_next hP hns
                        clear F31 N31
                        replace N33 := Mine.news_as N33
                        have hM := Mine.mth5 hL1 N33
                        (repeat' (first | (k_unfold; (try dsimp only)) | ((fail_if_success (with_reducible show wpAny _ _ (call (Value.ref 683) _) _ _ _)); walk1)))
                        refine' Mine.lex5_tok (rest := (D, OD) :: own) ?u1 ?u2 ?u3 ?u4 ?u5 ?u6 ?u7 hL1 ?u8 ?u9 ?_
                        case u9 => exact N33
                        case u1 => k_asm
                        case u2 => k_asm
                        case u3 => k_asm
                        case u4 => k_asm
                        case u5 => k_room
                        case u6 => k_units
                        case u7 => exact Mine.s_len hlTX rfl
                        case u8 => exact (hap.same hs1).two (Mine.ap_own hoff hs1)
                        intro h35 lg2 t35 k35 F35 N35 hL2 hs2
                        (repeat' (first | (k_unfold; (try dsimp only)) | ((fail_if_success (with_reducible show wpAny _ _ (compareOp _ _ _) _ _ _)); walk1)))
                        refine Mine.ne_SS ?_
                        k_steps
                        rename Fr _ _ _ _ => F37
                        rename News _ _ _ _ => N37
                        refine Mine.w1_end F37 N37 (fun p hp => by simpa using hp) (Eq.trans hs2 hs1) (Mine.has2 rfl rfl) ?v1 (hnx _ hL2 hs2)
                        case v1 => exact Mine.rest2
                      case s4 =>
                        intro lg1 u h36 tk36 hP F36 N36
                        obtain ⟨hL1, hs1⟩ := Mine.p1_done hP
                        clear F31 N31
                        (repeat' (first | (k_unfold; (try dsimp only)) | ((fail_if_success (with_reducible show wpAny _ _ (pyIter _) _ _ _)); walk1)))
                        rename Fr _ _ _ _ => F40
                        rename News _ _ _ _ => N40
                        rename ∀ p ∈ lg1 ++ _, p.1 < _ => hl40
                        (try clear F36)
                        (try clear N36)
                        refine kst_listL (σ := List (Addr × Obj)) (ns := [0, 1, 2, 0]) (fun c => _ :: (c ++ [(D, OD)])) (fun _ => [(Str.ofString "due", .ref D), (Str.ofString "lex", .ref lx)]) (fun _ => True) [] (fun _ c => Mine.Lex5 w.params (Mine.S TX) pn b0 sp lx c [] [] FL ∧ Mine.Same5 lg1 c) lg1 rfl (fun _ => .head _) (.cons 0 _ (.cons 1 _ (.cons 2 _ (.cons 0 _ .nil)))) F40 N40 trivial ?s1 ⟨hL1, rfl⟩ ?s3 ?s4
                        case s1 =>
                          intro p hp
                          simp only [List.mem_cons, List.not_mem_nil, or_false] at hp
                          rcases hp with rfl | rfl
                          · exact rfl
                          · exact rfl
                        case s3 =>
                          intro c pre post n tn u h41 tk41 own hns hnm hoff _ hP F41 N41
                          obtain ⟨hLc, hsc⟩ := hP
                          clear F40 N40
                          replace N41 := Mine.news_as2 N41
                          have hap2 := fun (ob : Obj) => ((hap.same hs1).same hsc).two ((Mine.ap_l5 (ob := ob) hl40 hsc).two (Mine.ap_own2 hoff hsc))
                          (repeat' (first | (k_unfold; (try dsimp only)) | ((fail_if_success (with_reducible show wpAny _ _ (call (Value.ref 747) _) _ _ _)); walk1)))
                          refine' Mine.refused5 (lg := c) (rest := (D, OD) :: _ :: own) ?u1 ?u2 ?u3 ?u4 ?u5 ?u6 ?u7 ?u8 hLc ?u9 ?u10 (Mine.way_of hns) ?_
                          case u10 => exact N41
                          case u1 => rfl
                          case u2 => k_asm
                          case u3 => k_asm
                          case u4 => k_asm
                          case u5 => k_asm
                          case u6 => k_room
                          case u7 => k_units
                          case u8 => exact Mine.s_len hlTX rfl
                          case u9 => exact hap2 _
                          intro h43 qa lg2 sv v1 v2 v3 k43 F43 N43 hF2 hs2 hsv
                          clear F41 N41
                          have hM := Mine.mthF5 hF2 (Mine.news_tl N43)
                          (repeat' (first | (k_unfold; (try dsimp only)) | ((fail_if_success (with_reducible show wpAny _ _ (compareOp _ _ _) _ _ _)); walk1)))
                          refine Mine.tup_ne5 hOD hFL hsv N43 (.head _) (.tail _ (List.mem_append_right _ (.head _))) (Mine.st_ok hq) (Mine.held_ok hq hB2 hI2) (Nat.le_of_ble_eq_true rfl) ?_
                          (repeat' (first | (k_unfold; (try dsimp only)) | ((fail_if_success (with_reducible show wpAny _ _ (call (Value.ref 661) _) _ _ _)); walk1)))
                          refine' Mine.flt5_push (lg := lg2) (rest := (D, OD) :: _ :: own) ?u1 ?u2 ?u3 ?u4 ?u5 ?u6 hF2 ?u9 (Mine.news_tl N43) ?_
                          case u1 => k_asm
                          case u2 => k_asm
                          case u3 => k_asm
                          case u4 => k_asm
                          case u5 => k_room
                          case u6 => k_units
                          case u9 => exact (hap2 _).same hs2
                          intro h45 lg3 k45 F45 N45 hF3 hs3
                          clear N43 F43
                          have hM := Mine.mthF5 hF3 N45
                          (repeat' (first | (k_unfold; (try dsimp only)) | ((fail_if_success (with_reducible show wpAny _ _ (call (Value.ref 683) _) _ _ _)); walk1)))
                          refine' Mine.flt5_pop (lg := lg3) (rest := (D, OD) :: _ :: own) ?u1 ?u2 ?u3 ?u4 ?u5 ?u6 hF3 ?u9 N45 ?_
                          case u1 => k_asm
                          case u2 => k_asm
                          case u3 => k_asm
                          case u4 => k_asm
                          case u5 => k_room
                          case u6 => k_units
                          case u9 => exact ((hap2 _).same hs2).same hs3
                          intro h47 lg4 k47 F47 N47 hF4 hs4
                          clear N45 F45
                          (repeat' (first | (k_unfold; (try dsimp only)) | ((fail_if_success (with_reducible show wpAny _ _ (compareOp _ _ _) _ _ _)); walk1)))
                          refine Mine.ne_SS ?_
                          k_steps
                          rename Fr _ _ _ _ => F49
                          rename News _ _ _ _ => N49
                          refine Mine.w2_end F49 N49 (fun p hp => by simp only [List.mem_append, List.mem_cons, List.not_mem_nil, or_false] at hp ⊢; rcases hp with (h | h | h) | h <;> simp [h]) (Eq.trans hs4 (Eq.trans hs3 (Eq.trans hs2 hsc))) (Mine.has2 rfl rfl) ?v1 ⟨hF4.lex, Eq.trans hs4 (Eq.trans hs3 (Eq.trans hs2 hsc))⟩
                          case v1 => exact Mine.rest2
                        case s4 =>
                          intro c u h41 tk41 _ hP F41 N41
                          clear F40 N40
                          (repeat' (first | (k_unfold; (try dsimp only)) | ((fail_if_success (with_reducible show wpAny _ _ (eval (Expr.Constant _ _ _) _) _ _ _)); walk1)))
                          walk1
                          refine hQv _ _ ?_
                          k_steps

end
end
theorem PySem.Challenge.cw_kq0019_05_holds : PySem.Challenge.rw_kq0019_05.Holds := by
  exact Mine.law_all

