import PyProof.Rows.All
import Wide.All
import OpenK.AllK
import Wide.FinOn
import PySem.Challenge.RW_kq0019_03
open PySem PySem.W PyProof.Rows PySem.Calls PySem.Spec
set_option Elab.async false
set_option maxRecDepth 100000
set_option maxHeartbeats 0
set_option rowWalk.seconds 0

namespace Mine
theorem keep_goal {p : Prop} (_ : True) (h : p) : p := h
section
local macro_rules | `(tactic| o_head $_) => `(tactic| refine keep_goal ?hw ?hc)
local macro_rules | `(tactic| w_witness2) => `(tactic| exact trivial)
open_top hd for (PySem.Challenge.rw_kq0019_03.row)
end
end Mine
theorem Mine.walk_off : True := by
  w_top off
  trivial
namespace Mine
theorem dq_attrs : PlainAttrs "collections.deque" :=
  ⟨⟨"collections.deque.__getattribute__", by rw [typeLookup_type, builtinLookup_eq_fast]; kernel_rfl, by decide +kernel⟩, by rw [typeLookup_type, builtinLookup_eq_fast]; kernel_rfl⟩
theorem dq_owner : Manifest.owners.lookup (String.ofList ['e', 'u', 'q', 'e', 'd', '.', 's', 'n', 'o', 'i', 't', 'c', 'e', 'l', 'l', 'o', 'c'].reverse) = some Manifest.sig_collections_deque := by kernel_rfl
theorem dq_slot_append : Slot "collections.deque" "append" "collections.deque.append" :=
  .of (owner := "collections.deque") (n := "append") (by rw [typeLookup_type, builtinLookup_eq_fast]; kernel_rfl) (by decide +kernel) (by decide +kernel) (by decide +kernel)
    (by first | exact .inl (by decide +kernel) | exact .inr (by decide +kernel)) (by rw [isSubtype_type]; kernel_rfl)
theorem dq_entry_append : entryFor table "collections.deque.append" = some Builtin.«collections.deque.append» := entryFor_of_tree (by kernel_rfl)
theorem dq_args_append (a b : Value) : argsOk "collections.deque.append" ⟨[a, b], []⟩ := by
  unfold argsOk; rw [signature?_of (id := "collections.deque.append") (n := ['d', 'n', 'e', 'p', 'p', 'a']) (o := ['e', 'u', 'q', 'e', 'd', '.', 's', 'n', 'o', 'i', 't', 'c', 'e', 'l', 'l', 'o', 'c']) (by kernel_rfl) dq_owner]; kernel_rfl
theorem dq_type_append : typeOf (.builtin "collections.deque.append") = pure (.type "method_descriptor") := by show builtinType _ = _; rw [builtinType_eq_fast]; kernel_rfl
theorem dq_slot_appendleft : Slot "collections.deque" "appendleft" "collections.deque.appendleft" :=
  .of (owner := "collections.deque") (n := "appendleft") (by rw [typeLookup_type, builtinLookup_eq_fast]; kernel_rfl) (by decide +kernel) (by decide +kernel) (by decide +kernel)
    (by first | exact .inl (by decide +kernel) | exact .inr (by decide +kernel)) (by rw [isSubtype_type]; kernel_rfl)
theorem dq_entry_appendleft : entryFor table "collections.deque.appendleft" = some Builtin.«collections.deque.appendleft» := entryFor_of_tree (by kernel_rfl)
theorem dq_args_appendleft (a b : Value) : argsOk "collections.deque.appendleft" ⟨[a, b], []⟩ := by
  unfold argsOk; rw [signature?_of (id := "collections.deque.appendleft") (n := ['t', 'f', 'e', 'l', 'd', 'n', 'e', 'p', 'p', 'a']) (o := ['e', 'u', 'q', 'e', 'd', '.', 's', 'n', 'o', 'i', 't', 'c', 'e', 'l', 'l', 'o', 'c']) (by kernel_rfl) dq_owner]; kernel_rfl
theorem dq_type_appendleft : typeOf (.builtin "collections.deque.appendleft") = pure (.type "method_descriptor") := by show builtinType _ = _; rw [builtinType_eq_fast]; kernel_rfl
theorem dq_slot_pop : Slot "collections.deque" "pop" "collections.deque.pop" :=
  .of (owner := "collections.deque") (n := "pop") (by rw [typeLookup_type, builtinLookup_eq_fast]; kernel_rfl) (by decide +kernel) (by decide +kernel) (by decide +kernel)
    (by first | exact .inl (by decide +kernel) | exact .inr (by decide +kernel)) (by rw [isSubtype_type]; kernel_rfl)
theorem dq_entry_pop : entryFor table "collections.deque.pop" = some Builtin.«collections.deque.pop» := entryFor_of_tree (by kernel_rfl)
theorem dq_args_pop (a : Value) : argsOk "collections.deque.pop" ⟨[a], []⟩ := by
  unfold argsOk; rw [signature?_of (id := "collections.deque.pop") (n := ['p', 'o', 'p']) (o := ['e', 'u', 'q', 'e', 'd', '.', 's', 'n', 'o', 'i', 't', 'c', 'e', 'l', 'l', 'o', 'c']) (by kernel_rfl) dq_owner]; kernel_rfl
theorem dq_type_pop : typeOf (.builtin "collections.deque.pop") = pure (.type "method_descriptor") := by show builtinType _ = _; rw [builtinType_eq_fast]; kernel_rfl
theorem dq_slot_popleft : Slot "collections.deque" "popleft" "collections.deque.popleft" :=
  .of (owner := "collections.deque") (n := "popleft") (by rw [typeLookup_type, builtinLookup_eq_fast]; kernel_rfl) (by decide +kernel) (by decide +kernel) (by decide +kernel)
    (by first | exact .inl (by decide +kernel) | exact .inr (by decide +kernel)) (by rw [isSubtype_type]; kernel_rfl)
theorem dq_entry_popleft : entryFor table "collections.deque.popleft" = some Builtin.«collections.deque.popleft» := entryFor_of_tree (by kernel_rfl)
theorem dq_args_popleft (a : Value) : argsOk "collections.deque.popleft" ⟨[a], []⟩ := by
  unfold argsOk; rw [signature?_of (id := "collections.deque.popleft") (n := ['t', 'f', 'e', 'l', 'p', 'o', 'p']) (o := ['e', 'u', 'q', 'e', 'd', '.', 's', 'n', 'o', 'i', 't', 'c', 'e', 'l', 'l', 'o', 'c']) (by kernel_rfl) dq_owner]; kernel_rfl
theorem dq_type_popleft : typeOf (.builtin "collections.deque.popleft") = pure (.type "method_descriptor") := by show builtinType _ = _; rw [builtinType_eq_fast]; kernel_rfl
theorem dq_slot_len : Slot "collections.deque" "__len__" "collections.deque.__len__" :=
  .of (owner := "collections.deque") (n := "__len__") (by rw [typeLookup_type, builtinLookup_eq_fast]; kernel_rfl) (by decide +kernel) (by decide +kernel) (by decide +kernel)
    (by first | exact .inl (by decide +kernel) | exact .inr (by decide +kernel)) (by rw [isSubtype_type]; kernel_rfl)
theorem dq_entry_len : entryFor table "collections.deque.__len__" = some Builtin.«collections.deque.__len__» := entryFor_of_tree (by kernel_rfl)
theorem dq_args_len (a : Value) : argsOk "collections.deque.__len__" ⟨[a], []⟩ := by
  unfold argsOk; rw [signature?_of (id := "collections.deque.__len__") (n := ['_', '_', 'n', 'e', 'l', '_', '_']) (o := ['e', 'u', 'q', 'e', 'd', '.', 's', 'n', 'o', 'i', 't', 'c', 'e', 'l', 'l', 'o', 'c']) (by kernel_rfl) dq_owner]; kernel_rfl
theorem dq_slot_init : Slot "collections.deque" "__init__" "collections.deque.__init__" :=
  .of (owner := "collections.deque") (n := "__init__") (by rw [typeLookup_type, builtinLookup_eq_fast]; kernel_rfl) (by decide +kernel) (by decide +kernel) (by decide +kernel)
    (by first | exact .inl (by decide +kernel) | exact .inr (by decide +kernel)) (by rw [isSubtype_type]; kernel_rfl)
theorem dq_entry_init : entryFor table "collections.deque.__init__" = some Builtin.«collections.deque.__init__» := entryFor_of_tree (by kernel_rfl)

abbrev dqO (vs : List Value) (n : Int) : Obj := { cls := .type "collections.deque", data := .fields (.none :: rawInt n :: vs).toArray }
section
variable {prog : Program} {w : World} {A : Around} {E : Value → Shared → Prop} {s : Shared} {h₀ : Heap} {L : Addr} {m : Str → Option Value} {news news' : List (Addr × Obj)} {q : Addr} {vs : List Value} {n : Int}
theorem dq_typeIs (ho : s.heap.get? q = some (dqO vs n)) : s.TypeIs (.ref q) "collections.deque" := ⟨_, ho, rfl⟩
theorem dq_method {M : Model} {name : Str} {id : String} {pl : Sem Bool} {Q : Value × List Value → Shared → Prop} (slot : Slot "collections.deque" name id) (hty : typeOf (.builtin id) = pure (.type "method_descriptor"))
    (N : News h₀ L s.heap news) (hm : (q, dqO vs n) ∈ news) (h : Q (.builtin id, [.ref q]) s) : wpAny M A (getMethod (.ref q) name pl) Q E s :=
  getMethod_builtin (dq_typeIs (N.get hm)) dq_attrs slot hty (fun a e => by cases e; exact ⟨_, N.get hm, rfl⟩) h
theorem dq_change {f : Array Value → Array Value} {vs' : List Value} {Q : Unit → Shared → Prop} (F : Fr h₀ L s.heap m) (N : News h₀ L s.heap news) (U : Upd q (dqO vs n) (dqO vs' (n + 1)) news news')
    (hf : f vs.toArray = vs'.toArray) (hsz : vs'.length ≤ 1000000)
    (h : ∀ h', Fr h₀ L h' m → News h₀ L h' news' → Q () { s with heap := h' }) : wpAny (model prog w) A (Builtin.Deque.change (.ref q) f) Q E s := by
  obtain ⟨pre, post, rfl, rfl, a, b⟩ := U.split
  have z := N (q, dqO vs n) (List.mem_append.mpr (.inr (.head _)))
  unfold Builtin.Deque.change Builtin.Deque.state field fieldsOf
  dsimp only
  refine wpAny_bind (wpAny_bind (wpAny_bind (wpAny_bind (wpAny_load z.1 (wpAny_pure ?_)))))
  have e1 : (Value.none :: rawInt n :: vs).toArray[1]? = some (rawInt n) := by simp
  rw [e1]
  refine wpAny_pure (wpAny_pure ?_)
  unfold updateFields
  refine wpAny_bind (wpAny_load z.1 ?_)
  dsimp only
  have e : (Obj.mapFields (fun vs => #[vs.getD 0 .none, rawInt (if true = true then n + 1 else n)] ++ f (vs.extract 2 vs.size)) (dqO vs n)) = dqO vs' (n + 1) := by
    unfold Obj.mapFields
    simp [hf]
  have U' := news_upd F N a b e rfl
  refine wpAny_bind (wpAny_update z.1 ?_)
  unfold lookBehind
  have g := (U'.2 (q, dqO vs' (n + 1)) (by simp)).1
  refine wpAny_bind (wpAny_loadPart g ?_)
  have k : (dqO vs' (n + 1)).data.pastItsLine = none := by
    show (Data.fields _).pastItsLine = none
    unfold Data.pastItsLine
    simp [sizeLine]
    omega
  rw [k]
  exact wpAny_pure (h _ U'.1 U'.2)

theorem dq_append {x : Value} {Q : Value → Shared → Prop} (F : Fr h₀ L s.heap m) (N : News h₀ L s.heap news) (U : Upd q (dqO vs n) (dqO (vs ++ [x]) (n + 1)) news news') (hsz : vs.length ≤ 900000)
    (h : ∀ h', Fr h₀ L h' m → News h₀ L h' news' → Q .none { s with heap := h' }) : wpAny (model prog w) A (call (.builtin "collections.deque.append") [.ref q, x]) Q E s := by
  have hm : (q, dqO vs n) ∈ news := by obtain ⟨pre, post, rfl, _⟩ := U.split; simp
  refine wpAny_call_entry dq_slot_append (dq_typeIs (N.get hm)) dq_entry_append ?_ (dq_args_append _ _)
  show wpAny _ _ (Builtin.Deque.pushRight (.ref q) x >>= fun _ => ret .none) _ _ s
  unfold Builtin.Deque.pushRight
  refine wpAny_bind (wpAny_bind (dq_change F N U (by simp) (by simp; omega) fun h' F' N' => ?_))
  have hm' : (q, dqO (vs ++ [x]) (n + 1)) ∈ news' := by obtain ⟨pre, post, _, rfl, _⟩ := U.split; simp
  have g := N'.get hm'
  unfold Builtin.Deque.maxlen field fieldsOf
  refine wpAny_bind (wpAny_bind (wpAny_bind (wpAny_bind (wpAny_load g (wpAny_pure ?_)))))
  have e1 : (Value.none :: rawInt (n + 1) :: (vs ++ [x])).toArray[0]? = some .none := by simp
  rw [e1]
  exact wpAny_pure (wpAny_pure (wpAny_pure (wpAny_pure ⟨_, rfl, h _ F' N'⟩)))
theorem dq_appendleft {x : Value} {Q : Value → Shared → Prop} (F : Fr h₀ L s.heap m) (N : News h₀ L s.heap news) (U : Upd q (dqO vs n) (dqO (x :: vs) (n + 1)) news news') (hsz : vs.length ≤ 900000)
    (h : ∀ h', Fr h₀ L h' m → News h₀ L h' news' → Q .none { s with heap := h' }) : wpAny (model prog w) A (call (.builtin "collections.deque.appendleft") [.ref q, x]) Q E s := by
  have hm : (q, dqO vs n) ∈ news := by obtain ⟨pre, post, rfl, _⟩ := U.split; simp
  refine wpAny_call_entry dq_slot_appendleft (dq_typeIs (N.get hm)) dq_entry_appendleft ?_ (dq_args_appendleft _ _)
  show wpAny _ _ (Builtin.Deque.pushLeft (.ref q) x >>= fun _ => ret .none) _ _ s
  unfold Builtin.Deque.pushLeft
  refine wpAny_bind (wpAny_bind (dq_change F N U (by simp) (by simp; omega) fun h' F' N' => ?_))
  have hm' : (q, dqO (x :: vs) (n + 1)) ∈ news' := by obtain ⟨pre, post, _, rfl, _⟩ := U.split; simp
  have g := N'.get hm'
  unfold Builtin.Deque.maxlen field fieldsOf
  refine wpAny_bind (wpAny_bind (wpAny_bind (wpAny_bind (wpAny_load g (wpAny_pure ?_)))))
  have e1 : (Value.none :: rawInt (n + 1) :: (x :: vs)).toArray[0]? = some .none := by simp
  rw [e1]
  exact wpAny_pure (wpAny_pure (wpAny_pure (wpAny_pure ⟨_, rfl, h _ F' N'⟩)))
theorem dq_pop {x : Value} {Q : Value → Shared → Prop} (F : Fr h₀ L s.heap m) (N : News h₀ L s.heap news) (U : Upd q (dqO (vs ++ [x]) n) (dqO vs (n + 1)) news news') (hsz : vs.length ≤ 900000)
    (h : ∀ h', Fr h₀ L h' m → News h₀ L h' news' → Q x { s with heap := h' }) : wpAny (model prog w) A (call (.builtin "collections.deque.pop") [.ref q]) Q E s := by
  have hm : (q, dqO (vs ++ [x]) n) ∈ news := by obtain ⟨pre, post, rfl, _⟩ := U.split; simp
  have g := N.get hm
  refine wpAny_call_entry dq_slot_pop (dq_typeIs (N.get hm)) dq_entry_pop ?_ (dq_args_pop _)
  show wpAny _ _ (Builtin.«collections.deque.pop» ⟨[.ref q], []⟩) _ _ s
  unfold Builtin.«collections.deque.pop» selfOnly noKeywords
  refine wpAny_bind (wpAny_bind (wpAny_pure (wpAny_pure ?_)))
  unfold Builtin.Deque.items fieldsOf
  refine wpAny_bind (wpAny_bind (wpAny_bind (wpAny_load g (wpAny_pure ?_))))
  refine wpAny_pure ?_
  have e1 : ((Value.none :: rawInt n :: (vs ++ [x])).toArray.extract 2 (Value.none :: rawInt n :: (vs ++ [x])).toArray.size).back? = some x := by
    have e2 : (vs ++ [x]).take (vs.length + 1) = vs ++ [x] := List.take_of_length_le (by simp)
    simp [e2]
  rw [e1]
  refine wpAny_bind (dq_change F N U (by simp) (by omega) fun h' F' N' => ?_)
  exact wpAny_pure ⟨_, rfl, h _ F' N'⟩
theorem dq_popleft {x : Value} {Q : Value → Shared → Prop} (F : Fr h₀ L s.heap m) (N : News h₀ L s.heap news) (U : Upd q (dqO (x :: vs) n) (dqO vs (n + 1)) news news') (hsz : vs.length ≤ 900000)
    (h : ∀ h', Fr h₀ L h' m → News h₀ L h' news' → Q x { s with heap := h' }) : wpAny (model prog w) A (call (.builtin "collections.deque.popleft") [.ref q]) Q E s := by
  have hm : (q, dqO (x :: vs) n) ∈ news := by obtain ⟨pre, post, rfl, _⟩ := U.split; simp
  have g := N.get hm
  refine wpAny_call_entry dq_slot_popleft (dq_typeIs (N.get hm)) dq_entry_popleft ?_ (dq_args_popleft _)
  show wpAny _ _ (Builtin.«collections.deque.popleft» ⟨[.ref q], []⟩) _ _ s
  unfold Builtin.«collections.deque.popleft» selfOnly noKeywords
  refine wpAny_bind (wpAny_bind (wpAny_pure (wpAny_pure ?_)))
  unfold Builtin.Deque.items fieldsOf
  refine wpAny_bind (wpAny_bind (wpAny_bind (wpAny_load g (wpAny_pure ?_))))
  refine wpAny_pure ?_
  have e1 : ((Value.none :: rawInt n :: (x :: vs)).toArray.extract 2 (Value.none :: rawInt n :: (x :: vs)).toArray.size)[0]? = some x := by simp
  rw [e1]
  refine wpAny_bind (dq_change F N U (by simp) (by omega) fun h' F' N' => ?_)
  exact wpAny_pure ⟨_, rfl, h _ F' N'⟩
theorem dq_truthy {Q : Bool → Shared → Prop} (N : News h₀ L s.heap news) (hm : (q, dqO vs n) ∈ news) (hsz : vs.length ≤ 900000)
    (h : Q (!vs.isEmpty) { s with toks := s.toks + 1 + 1 }) : wpAny (model prog w) A (truthy (.ref q)) Q E s := by
  have g := N.get hm
  have hT := dq_typeIs g
  have key : wpAny (model prog w) A (runValue (.builtin "len" ⟨[.ref q], []⟩)) (fun r s' => r = .int vs.length (s.toks + 1) ∧ Q (!vs.isEmpty) s') E s := by
    refine wpAny_runValue (codeAny_builtin entry_len ?_)
    rw [Around.under_plainId plain_len _]
    unfold Builtin.«len»
    refine wpAny_bind (m := oneArg "len" _) (wpAny_pure ?_)
    refine wpAny_bind (m := callSpecial? (.ref q) (Str.ofString "__len__")) (wpAny_callSpecial?_slot (name := Str.ofString "__len__") hT dq_slot_len
      (wpAny_call_entry dq_slot_len hT dq_entry_len ?_ (dq_args_len _)))
    show wpAny _ _ (Builtin.«collections.deque.__len__» ⟨[.ref q], []⟩) _ _ _
    unfold Builtin.«collections.deque.__len__» slotArgs Builtin.Deque.size fieldsOf
    simp only [List.isEmpty_nil, Bool.not_true, Bool.false_eq_true, ↓reduceIte, bind_assoc, List.length_nil, bne_self_eq_false]
    refine wpAny_bind (wpAny_pure ?_)
    dsimp only
    refine wpAny_bind (wpAny_bind (wpAny_load g (wpAny_pure ?_)))
    refine wpAny_bind (wpAny_pure ?_)
    have e1 : (Value.none :: rawInt n :: vs).toArray.size - 2 = vs.length := by simp
    rw [e1]
    refine wpAny_bind (wpAny_mkInt (wpAny_pure ⟨_, rfl, ?_⟩))
    refine wpAny_bind (wpAny_holding (wpAny_pure ?_))
    refine wpAny_bind (wpAny_letGo ?_)
    show wpAny _ _ (if ((vs.length : Nat) : Int) < 0 then _ else _) _ _ _
    rw [if_neg (by omega)]
    show wpAny _ _ (if ((vs.length : Nat) : Int) ≥ 2 ^ 63 then _ else _) _ _ _
    rw [if_neg (by omega)]
    exact wpAny_bind (wpAny_mkInt (wpAny_pure ⟨rfl, h⟩))
  unfold truthy
  refine wpAny_bind (wpAny_callSpecial?_none (name := Str.ofString "__bool__") hT (by rw [typeLookup_type, builtinLookup_eq_fast]; kernel_rfl) ?_)
  refine wpAny_bind (wpAny_specialOf (name := Str.ofString "__len__") hT dq_slot_len.lookup ?_)
  refine wpAny_bind (wpAny_mono key (fun r s' h' => ?_) fun _ _ e => e)
  obtain ⟨rfl, hq⟩ := h'
  refine wpAny_pure ?_
  have e : ((vs.length : Int) != 0) = !vs.isEmpty := by cases vs <;> simp <;> omega
  first | exact hq | (show Q ((vs.length : Int) != 0) s'; rw [e]; exact hq)
end
end Mine

namespace Mine
theorem dq_mro : mroOf (.type "collections.deque") = pure [.type "collections.deque", .type "object"] := by rw [mroOf_type]; kernel_rfl
theorem dq_lookup_new : typeLookup (.type "collections.deque") "__new__" = pure (some (.builtin "collections.deque.__new__")) := by rw [typeLookup_type, builtinLookup_eq_fast]; kernel_rfl
theorem dq_sub_self : isSubtype (.type "collections.deque") (.type "collections.deque") = pure true := by rw [isSubtype_type]; kernel_rfl
theorem dq_called : TypeCalled "collections.deque" "collections.deque.__new__" "collections.deque.__init__" :=
  ⟨by decide +kernel, by decide +kernel, ⟨_, _, dq_mro⟩, madeBy_type dq_mro dq_lookup_new (by decide +kernel), by decide +kernel, by rw [isSubtype_type]; kernel_rfl, dq_slot_init⟩
theorem dq_typeCall : checkTypeCall "collections.deque" ⟨[], []⟩ = pure () := by kernel_rfl
theorem dq_newCall : checkBuiltinCall "collections.deque.__new__" ⟨[.type "collections.deque"], []⟩ = pure () := by kernel_rfl
theorem dq_entry_new : entryFor table "collections.deque.__new__" = some Builtin.«collections.deque.__new__» := entryFor_of_tree (by kernel_rfl)
theorem dq_plain_new : plainId "collections.deque.__new__" = true := by decide +kernel
section
variable {prog : Program} {w : World} {A : Around} {E : Value → Shared → Prop} {s : Shared}
theorem dq_code_new {Q₁ : Value → Shared → Prop}
    (h : Q₁ (.ref s.heap.objs.size) { s with heap := s.heap.push (dqO [] 0) }) :
    codeAny (model prog w) A (.call (.builtin "collections.deque.__new__") ⟨[.type "collections.deque"], []⟩) (wants Q₁ E) s := by
  refine codeAny_of_tree ?_
  show wpAny _ A.in1 (do checkBuiltinCall "collections.deque.__new__" ⟨[.type "collections.deque"], []⟩; again (.builtin "collections.deque.__new__" ⟨[.type "collections.deque"], []⟩)) _ _ s
  refine wpAny_bind (wpAny_of_eq dq_newCall (wpAny_pure ⟨plainId_quiet dq_plain_new _, codeAny_builtin dq_entry_new ?_⟩))
  rw [Around.under_plainId dq_plain_new _]
  show wpAny _ _ (Builtin.Deque.newArgs Builtin.Deque.ty ⟨[.type "collections.deque"], []⟩ >>= fun p => Builtin.Deque.new p.1 #[] none >>= fun v => ret v) _ _ s
  refine wpAny_bind ?_
  unfold Builtin.Deque.newArgs
  dsimp only
  refine wpAny_bind (wpAny_pure ?_)
  simp only [Bool.not_true, Bool.false_eq_true, if_false]
  refine wpAny_bind (wpAny_of_eq dq_sub_self ?_)
  simp only [Bool.not_true, Bool.false_eq_true, if_false]
  refine wpAny_pure ?_
  refine wpAny_bind ?_
  unfold Builtin.Deque.new
  have hd : typeHasDict (.type "collections.deque") = false := by decide +kernel
  have hz : ¬ (#[] : Array Value).size > sizeLine := by decide
  dsimp only
  rw [if_neg hz, hd]
  simp only [Bool.false_eq_true, if_false]
  refine wpAny_bind (wpAny_pure ?_)
  exact wpAny_newObj_type (wpAny_pure h) (by show _ ≤ _; decide)
theorem dq_sig_init : Manifest.signature? "collections.deque.__init__" = some ⟨.keywords, "deque", "deque", .self, [⟨"iterable", .posOrKw, false⟩, ⟨"maxlen", .posOrKw, false⟩]⟩ := by
  rw [signature?_of (id := "collections.deque.__init__") (n := ['_', '_', 't', 'i', 'n', 'i', '_', '_']) (o := ['e', 'u', 'q', 'e', 'd', '.', 's', 'n', 'o', 'i', 't', 'c', 'e', 'l', 'l', 'o', 'c']) (by kernel_rfl) dq_owner]; kernel_rfl
theorem dq_args_init (a : Value) : argsOk "collections.deque.__init__" ⟨[a], []⟩ := by
  unfold argsOk; rw [signature?_of (id := "collections.deque.__init__") (n := ['_', '_', 't', 'i', 'n', 'i', '_', '_']) (o := ['e', 'u', 'q', 'e', 'd', '.', 's', 'n', 'o', 'i', 't', 'c', 'e', 'l', 'l', 'o', 'c']) (by kernel_rfl) dq_owner]; kernel_rfl

theorem dq_clear0 {a : Addr} {R : Fin → Shared → Prop} {E' : Value → Shared → Prop} {A' : Around} (g : s.heap.get? a = some (dqO [] 0)) (h : ∀ s', s' = s → R (.done (.ret .none)) s') :
    wpAny (model prog w) A' (Builtin.Deque.clear (.ref a) >>= fun _ => ret .none) R E' s := by
  unfold Builtin.Deque.clear Builtin.Deque.items fieldsOf
  refine wpAny_bind (wpAny_bind (wpAny_bind (wpAny_bind (wpAny_load g (wpAny_pure ?_)))))
  refine wpAny_pure ?_
  have e1 : ((Value.none :: rawInt 0 :: ([] : List Value)).toArray.extract 2 (Value.none :: rawInt 0 :: ([] : List Value)).toArray.size).size > 0 ↔ False := by simp
  simp only [e1, if_false]
  exact wpAny_pure (wpAny_pure (h _ rfl))
theorem dq_new0 {Q : Value → Shared → Prop}
    (h : ∀ h', h'.objs.size = s.heap.objs.size + 1 → (∀ b o, s.heap.get? b = some o → h'.get? b = some o) → h'.get? s.heap.objs.size = some (dqO [] 0) → Q (.ref s.heap.objs.size) { s with heap := h' }) :
    wpAny (model prog w) A (call (.type "collections.deque") []) Q E s := by
  obtain ⟨c, tl, hmro⟩ := dq_called.mro
  have hmade := dq_called.made
  have hsub := dq_called.sub
  refine wpAny_call (codeAny_of_tree ?_)
  show wpAny _ _ (callAny (.type "collections.deque") _) _ _ _
  refine wpAny_pure ⟨Code.quiet_builtin _ (by decide +kernel), codeAny_builtin F.entry_type_call ?_⟩
  rw [Around.under_plain (weight_type_call_type "collections.deque" [] []) rfl]
  have h1 := dq_called.notType
  have h2 := dq_called.canCreate
  have hct := dq_typeCall
  repeat (any_goals (first | assumption | wp_step))
  refine codeAny_mono (dq_code_new (E := E) (Q₁ := fun obj s₁ => obj = .ref s.heap.objs.size ∧ s₁ = { s with heap := s.heap.push (dqO [] 0) }) ⟨rfl, rfl⟩) fun r s₁ hr => ?_
  cases r with
  | error e => exact hr
  | ok fl =>
    cases fl with
    | ret obj =>
      obtain ⟨rfl, rfl⟩ := hr
      have hS : (s.heap.push (dqO [] 0)).get? s.heap.objs.size = some (dqO [] 0) := Heap.get?_push_size _ rfl
      have hT : Shared.TypeIs { s with heap := s.heap.push (dqO [] 0) } (.ref s.heap.objs.size) "collections.deque" := ⟨_, hS, rfl⟩
      have hli := dq_called.init.lookup
      have hbi := dq_called.init.bind (.ref s.heap.objs.size)
      repeat (any_goals (first | assumption | wp_step))
      refine codeAny_mono (codeAny_call_builtin (R := wants (fun r s₂ => r = .none ∧ Q (.ref s.heap.objs.size) s₂) E) dq_called.init.plain dq_entry_init (dq_called.init.check _ _ _ _ _ _ _ _ hT (dq_args_init _) ?_)) fun r₂ s₂ hr₂ => ?_
      · show wpAny _ _ (Builtin.«collections.deque.__init__» ⟨[.ref s.heap.objs.size], []⟩) _ _ _
        have e0 : Builtin.«collections.deque.__init__» ⟨[.ref s.heap.objs.size], []⟩ = (setField (.ref s.heap.objs.size) 0 .none >>= fun _ => Builtin.Deque.clear (.ref s.heap.objs.size) >>= fun _ => ret .none) := by
          first | rfl | (unfold Builtin.«collections.deque.__init__»; simp)
        rw [e0]
        unfold setField updateField
        refine wpAny_bind (wpAny_bind (wpAny_load hS ?_))
        have e1 : 0 < (Value.none :: rawInt 0 :: ([] : List Value)).toArray.size := by simp
        dsimp only
        rw [if_pos e1]
        have e2 : Obj.mapFields (·.setIfInBounds 0 .none) (dqO [] 0) = dqO [] 0 := by unfold Obj.mapFields; rfl
        refine wpAny_update hS ?_
        have sb := Heap.SameBut.update (s.heap.push (dqO [] 0)) s.heap.objs.size (Obj.mapFields (·.setIfInBounds 0 .none))
        have g2 : ((s.heap.push (dqO [] 0)).update s.heap.objs.size (Obj.mapFields (·.setIfInBounds 0 .none))).get? s.heap.objs.size = some (dqO [] 0) := by
          rw [Heap.get?_update_self _ hS (by rw [e2]; rfl), e2]
        refine dq_clear0 (s := { s with heap := (s.heap.push (dqO [] 0)).update s.heap.objs.size (Obj.mapFields (·.setIfInBounds 0 .none)) }) g2 ?_
        rintro _ rfl
        refine ⟨rfl, h _ (by rw [sb.1, Heap.size_push]) (fun b o e => ?_) g2⟩
        rw [sb.2 b (Nat.ne_of_lt (Heap.lt_size e))]
        exact Heap.get?_push_of_some _ e
      · cases r₂ with
        | error e => exact hr₂
        | ok fl₂ =>
          cases fl₂ with
          | ret r =>
            obtain ⟨rfl, hq⟩ := hr₂
            repeat (any_goals (first | assumption | wp_step))
          | _ => exact hr₂.elim
    | _ => exact hr.elim
theorem dq_new {h₀ : Heap} {L : Addr} {m : Str → Option Value} {news : List (Addr × Obj)} {Q : Value → Shared → Prop} (F : Fr h₀ L s.heap m) (N : News h₀ L s.heap news)
    (h : ∀ q h', Fr h₀ L h' m → News h₀ L h' ((q, dqO [] 0) :: news) → (∀ p ∈ news, p.1 < q) → Q (.ref q) { s with heap := h' }) : wpAny (model prog w) A (call (.type "collections.deque") []) Q E s := by
  refine dq_new0 fun h' hsz hk hg => h _ h' ?_ ?_ fun p hp => Heap.lt_size (N p hp).1
  · obtain ⟨oL, a1, a2, hL, a3⟩ := F.ns
    exact ⟨⟨oL, a1, a2, hk _ _ hL, a3⟩, fun b o' e => hk _ _ (F.keep b o' e), F.above⟩
  · obtain ⟨oL, _, _, hL, _⟩ := F.ns
    intro p hp
    rcases List.mem_cons.mp hp with rfl | hp
    · refine ⟨hg, Nat.ne_of_gt (Heap.lt_size hL), ?_⟩
      cases hq : h₀.get? s.heap.objs.size with
      | none => rfl
      | some o' => exact absurd (Heap.lt_size (F.keep _ _ hq)) (Nat.lt_irrefl _)
    · exact ⟨hk _ _ (N p hp).1, (N p hp).2.1, (N p hp).2.2⟩
end
end Mine

namespace Mine
abbrev ent (P : Params) (k : String) (t : Tok) (v : Value) : DictEntry := ⟨PyData.keyHash P (Str.ofString k), .str (Str.ofString k) t, v⟩
abbrev ar (hd : Option Value) (d : Nat) (fs : List Env) (gs : Option (List Code)) (u : Nat) : Around := { handled := hd, depth := d, frames := some fs, guards := gs, units := u }
abbrev prog : Program := PySem.Challenge.pw_kq0019_03
abbrev fenv (ns : List (Str × NameKind)) (ig ic : Bool) (mo : List (Str × Const)) (gl : Addr) (cs : List (Str × Addr)) (q : Str) (fo : Option Addr) (cdv : Value) (bi : Addr) (L : Addr) : Env :=
  { scope := { kind := .function, names := ns, isGenerator := ig, isCoroutine := ic, more := mo }, locals := L, globals := gl, cells := cs, qual := q, func := fo, code := cdv, frame := some L, builtins := bi }
/-- the objects of a StringIO: x its text, p its place, toks of the keys kt -/
theorem units_kw (A : Around) (C : Addr) (vals : List Value) (kw : List (Str × Value)) : (A.under (.builtin "type.__call__" ⟨.ref C :: vals, kw⟩)).units = A.units + 1 := rfl
structure IoT where
  (a b c d e : Tok)
abbrev ioD (P : Params) (kt : IoT) (x : Str) (p : Nat) (v : Tok) : Obj := dictOf [ent P "_StringIO__newline" kt.a (.str (Str.ofString "\n") kt.b), ent P "_StringIO__buf" kt.c (.str x kt.d), ent P "_StringIO__pos" kt.e (.int p v)] 3
structure LxT where
  (k0 k1 k2 k3 k4 k5 k6 k7 k8 k9 k10 k11 k12 k13 k14 k15 k16 k17 k18 : Tok)
  (c4 c5 c6 c8 c9 c10 c14 c18 : Tok)
/-- the lexer's dict: io its stream, f its name, ev its eof, cm its commenters, wc its wordchars, sp whitespace_split, sv its state, ln its line, tk its token -/
abbrev lexD (P : Params) (T : LxT) (b sp : Bool) (ev : Value) (cm wc : Str) (pb fs io : Addr) (f sv : Value) (ln : Int) (tl : Tok) (tk : Str) (tt : Tok) : Obj := dictOf [
  ent P "instream" T.k0 (.ref io), ent P "infile" T.k1 f, ent P "posix" T.k2 (.bool b), ent P "eof" T.k3 ev, ent P "commenters" T.k4 (.str cm T.c4), ent P "wordchars" T.k5 (.str wc T.c5),
  ent P "whitespace" T.k6 (.str (Str.ofString " \t\x0d\n") T.c6), ent P "whitespace_split" T.k7 (.bool sp), ent P "quotes" T.k8 (.str (Str.ofString "'\"") T.c8), ent P "escape" T.k9 (.str (Str.ofString "\\") T.c9),
  ent P "escapedquotes" T.k10 (.str (Str.ofString "\"") T.c10), ent P "state" T.k11 sv, ent P "pushback" T.k12 (.ref pb), ent P "lineno" T.k13 (.int ln tl), ent P "debug" T.k14 (.int 0 T.c14),
  ent P "token" T.k15 (.str tk tt), ent P "filestack" T.k16 (.ref fs), ent P "source" T.k17 .none, ent P "_punctuation_chars" T.k18 (.str (Str.ofString "") T.c18)] 19
def ch1 (x : Str) (p : Nat) : Str := ⟨(x.cps.toList.drop p |>.take 1).toArray⟩
end Mine
namespace Mine
theorem sp_is : Str.ofString " " = ⟨#[32]⟩ := by decide +kernel
theorem slice_plus {x : Str} {a b : Int} (h0 : 0 ≤ a) (h : a ≤ b) (hb : b ≤ x.length) :
    Txt.slice (Txt.slice x (some a) (some b) ++ Str.ofString " ") none (some (-1)) = ⟨((x.cps.toList.drop a.toNat).take (b - a).toNat).toArray⟩ := by
  have e1 := eq_of_beq (slice_closes (x := x) (i := a) (j := b) ⟨h0, h, by simpa [Str.length] using hb⟩)
  rw [e1, sp_is]
  generalize (x.cps.toList.drop a.toNat).take (b - a).toNat = l
  have e2 : ((⟨l.toArray⟩ : Str) ++ (⟨#[32]⟩ : Str)) = ⟨(l ++ [32]).toArray⟩ := by
    show Str.append _ _ = _
    simp [Str.append]
  rw [e2]
  have hl : ((⟨(l ++ [32]).toArray⟩ : Str).length : Int) = l.length + 1 := by simp [Str.length]
  have e3 := eq_of_beq (slice_closes_to_neg (x := ⟨(l ++ [32]).toArray⟩) (j := -1) (k := l.length) (by omega) (by omega) (by omega))
  rw [e3]
  simp
theorem ch1_end {x : Str} {pos : Nat} {a b : Int} (ha : a = pos) (hb : b = if pos + 1 < x.length then (pos : Int) + 1 else x.length) (hp : pos < x.length) :
    Txt.slice (Txt.slice x (some a) (some b) ++ Str.ofString " ") none (some (-1)) = ch1 x pos := by
  subst ha
  have hb2 : b = (pos : Int) + 1 := by split at hb <;> omega
  subst hb2
  rw [slice_plus (by omega) (by omega) (by omega)]
  unfold ch1
  congr 3
  omega
theorem ch1_over {x : Str} {pos : Nat} (h : (x.length : Int) ≤ pos) : ch1 x pos = Str.ofString "" := by
  have e : Str.ofString "" = ⟨#[]⟩ := by decide +kernel
  rw [e]
  unfold ch1
  have : x.cps.toList.drop pos = [] := List.drop_of_length_le (by simp [Str.length] at h ⊢; omega)
  rw [this]; rfl
end Mine

local macro_rules | `(tactic| k_room) => `(tactic| ((try simp only [depth_under_make, depth_under_kw, depth_in1, depth_deeper, depth_caller, recursionLimit]); (try dsimp only); first | omega | decide))
local macro_rules | `(tactic| k_units) => `(tactic| ((try simp only [cLine, Around.deeper_units, Around.in1_units, units_under_make, Mine.units_kw]); (try dsimp only); first | omega | exact Nat.le_of_ble_eq_true rfl))
local macro_rules | `(tactic| k_all) => `(tactic| assumption)
local macro_rules | `(tactic| walk_at "subscriptTail Attribute") => `(tactic| (k_here; k_dflt (refine kba_turn (value' := PySem.Expr.Name (PySem.Str.ofString "_") ⟨0, 0, 0, 0⟩) (fun _ => rfl) ?_)))
local macro_rules | `(tactic| walk_at "subscriptTail BinOp") => `(tactic| (k_here; k_dflt (refine kba_turn (value' := PySem.Expr.Name (PySem.Str.ofString "_") ⟨0, 0, 0, 0⟩) (fun _ => rfl) ?_)))

section
namespace Mine
section
variable {w : World} {A₀ : Around} {base h₀ : Heap} {outer : List Env} {L : Addr} {m mg mb : Str → Option Value} {loose : List Str} {mean : ExcName → Option Value} {s : Shared} {Q E : Value → Shared → Prop} {p : Program}
  {hdl : Option Value} {d u : Nat} {gs : Option (List Code)} {rest : List (Addr × Obj)} {ns : List (Str × NameKind)} {ig ic : Bool} {mo : List (Str × Const)} {gl bi : Addr} {cs : List (Str × Addr)} {qn : Str} {fo : Option Addr} {cdv : Value}
theorem read1_end {h' : Heap} {io iod : Addr} {x y : Str} {pos : Nat} {q : Int} {kt : IoT} {t t' k : Tok}
  (hR : ∀ h' t t' k, Fr h₀ L h' m → News h₀ L h' ((io, instObj 587 iod) :: (iod, ioD w.params kt x (if pos < x.length then pos + 1 else pos) t') :: rest) → Q (.str (ch1 x pos) t) { s with heap := h', toks := k })
  (e1 : y = ch1 x pos) (e2 : q = ((if pos < x.length then pos + 1 else pos : Nat) : Int)) (F : Fr h₀ L h' m)
  (N : News h₀ L h' ((io, instObj 587 iod) :: (iod, dictOf [ent w.params "_StringIO__newline" kt.a (.str (Str.ofString "\n") kt.b), ent w.params "_StringIO__buf" kt.c (.str x kt.d), ent w.params "_StringIO__pos" kt.e (.int q t')] 3) :: rest)) :
  Q (.str y t) { s with heap := h', toks := k } := by
  subst e1 e2
  exact hR h' t t' k F N
theorem read1 {io iod : Addr} {x : Str} {pos : Nat} {kt : IoT} {t2 tk : Tok}
  (B : Below A₀ base outer h₀) (F : Fr h₀ L s.heap m) (X : (hd.heap_1 w.params).In h₀) (T : Top p loose mean mg mb h₀) (hdp : d < 980) (hun : u < 9800)
  (hio : @LT.lt Nat _ iod io) (hx : x.length ≤ 100000) (hrest : ∀ p ∈ rest, p.1 ≠ iod)
  (N : News h₀ L s.heap ((io, instObj 587 iod) :: (iod, ioD w.params kt x pos t2) :: rest))
  (hR : ∀ h' t t' k, Fr h₀ L h' m → News h₀ L h' ((io, instObj 587 iod) :: (iod, ioD w.params kt x (if pos < x.length then pos + 1 else pos) t') :: rest) → Q (.str (ch1 x pos) t) { s with heap := h', toks := k })
  : wpAny (model prog w) (ar hdl d (fenv ns ig ic mo gl cs qn fo cdv bi L :: outer) gs u) (call (.ref 533) [.ref io, .int 1 tk]) Q E s := by
  refine wpAny_call ?_
  k_enter
  k_steps
  · have e := ch1_over (x := x) (pos := pos) (by assumption)
    refine read1_end hR e.symm ?_ (by assumption) (by assumption)
    rw [if_neg (by omega)]
  · refine read1_end hR (ch1_end rfl ?_ (by omega)) ?_ (by assumption) (by assumption)
    · rw [if_pos (by omega)]
    · rw [if_pos (by omega)]; omega
  · refine read1_end hR (ch1_end rfl ?_ (by omega)) ?_ (by assumption) (by assumption)
    · rw [if_neg (by omega)]
    · rw [if_pos (by omega)]; omega
theorem read_c {io iod : Addr} {x : Str} {pos c : Nat} {r : List Nat} {kt : IoT} {t2 tk : Tok}
  (B : Below A₀ base outer h₀) (F : Fr h₀ L s.heap m) (X : (hd.heap_1 w.params).In h₀) (T : Top p loose mean mg mb h₀) (hdp : d < 980) (hun : u < 9800)
  (hio : @LT.lt Nat _ iod io) (hx : x.length ≤ 100000) (hrest : ∀ p ∈ rest, p.1 ≠ iod) (hc : x.cps.toList.drop pos = c :: r)
  (N : News h₀ L s.heap ((io, instObj 587 iod) :: (iod, ioD w.params kt x pos t2) :: rest))
  (hR : ∀ h' t t' k, Fr h₀ L h' m → News h₀ L h' ((io, instObj 587 iod) :: (iod, ioD w.params kt x (pos + 1) t') :: rest) → Q (.str ⟨#[c]⟩ t) { s with heap := h', toks := k })
  : wpAny (model prog w) (ar hdl d (fenv ns ig ic mo gl cs qn fo cdv bi L :: outer) gs u) (call (.ref 533) [.ref io, .int 1 tk]) Q E s := by
  have hl : pos < x.length := by
    have h := congrArg List.length hc
    simp [Str.length] at h ⊢
    omega
  have e : ch1 x pos = ⟨#[c]⟩ := by unfold ch1; rw [hc]; rfl
  refine read1 B F X T hdp hun hio hx hrest N fun h' t t' k F' N' => ?_
  rw [if_pos hl] at N'
  rw [e]
  exact hR h' t t' k F' N'
theorem read_e {io iod : Addr} {x : Str} {pos : Nat} {kt : IoT} {t2 tk : Tok}
  (B : Below A₀ base outer h₀) (F : Fr h₀ L s.heap m) (X : (hd.heap_1 w.params).In h₀) (T : Top p loose mean mg mb h₀) (hdp : d < 980) (hun : u < 9800)
  (hio : @LT.lt Nat _ iod io) (hx : x.length ≤ 100000) (hrest : ∀ p ∈ rest, p.1 ≠ iod) (hc : x.cps.toList.drop pos = [])
  (N : News h₀ L s.heap ((io, instObj 587 iod) :: (iod, ioD w.params kt x pos t2) :: rest))
  (hR : ∀ h' t t' k, Fr h₀ L h' m → News h₀ L h' ((io, instObj 587 iod) :: (iod, ioD w.params kt x pos t') :: rest) → Q (.str (Str.ofString "") t) { s with heap := h', toks := k })
  : wpAny (model prog w) (ar hdl d (fenv ns ig ic mo gl cs qn fo cdv bi L :: outer) gs u) (call (.ref 533) [.ref io, .int 1 tk]) Q E s := by
  have hl : ¬ pos < x.length := by
    have h := congrArg List.length hc
    simp [Str.length] at h ⊢
    omega
  have e := ch1_over (x := x) (pos := pos) (by omega)
  refine read1 B F X T hdp hun hio hx hrest N fun h' t t' k F' N' => ?_
  rw [if_neg hl] at N'
  rw [e]
  exact hR h' t t' k F' N'
end
end Mine

end
section
namespace Mine
section
variable {w : World} {A : Around} {s : Shared} {R : Result → Shared → Prop}
theorem io_new (X : (hd.heap_1 w.params).In s.heap) (hq : R (.ok (.ret (.ref (s.heap.objs.size + 1)))) { s with heap := (s.heap.push emptyDict).push (instObj 587 s.heap.objs.size) }) :
    codeAny (model prog w) A (.call (.builtin "object.__new__") ⟨[.ref 587], []⟩) R s := by
  obtain ⟨h, g, d, t, os⟩ := s
  have hC := X 587 _ (by k_is)
  have F := PySem.F.objNew
  have here : Looks (model prog w) h (Bind.madeHere "object.__new__" (.ref 587)) () := Looks.of_peek X (by kernel_rfl)
  have self : Looks (model prog w) h (isSubtype (.ref 587) (.ref 587)) true := looks_subIn X (by k_is)
  have top : Looks (model prog w) h (isSubtype (.ref 587) (.type "object")) true := looks_subIn X (by k_is)
  have typ : Looks (model prog w) h (isInstance (.ref 587) (.type "type")) true := looks_instIn X (by k_is)
  have chk : Looks (model prog w) h (checkBuiltinCall "object.__new__" ⟨[.ref 587], []⟩) () := Looks.of_peek X (by kernel_rfl)
  refine codeAny_call_builtin_code (Code.quiet_builtin _ F.quiet) (chk.here ?_)
  refine codeAny_builtin F.entry ?_
  unfold Builtin.«object.__new__»
  have fin : ∀ A', wpAny (model prog w) A' (do
      let d ← if typeHasDict (.ref 587) then some <$> alloc { cls := .type "dict", data := .dict #[] } else pure none
      ret (← newObj (.ref 587) .plain d)) (fun fin s' => match fin with | .done f => R (.ok f) s' | .again c' => c'.quiet = true ∧ codeAny (model prog w) A c' R s') (fun e s' => R (.error e) s') ⟨h, g, d, t, os⟩ := by
    intro A'
    show wpAny _ _ ((alloc emptyDict >>= fun x => pure (some x)) >>= _) _ _ _
    refine wpAny_bind (wpAny_bind (wpAny_alloc (wpAny_pure (wpAny_bind ?_))))
    show wpAny _ _ (newObjAsIs _ _ _) _ _ _
    unfold newObjAsIs classHasDel
    refine wpAny_bind (wpAny_alloc (wpAny_bind (wpAny_bind (wpAny_load (Heap.get?_push_of_some _ (Heap.get?_push_of_some _ hC)) (wpAny_pure ?_)))))
    refine wpAny_pure (wpAny_pure ?_)
    show R _ _
    rw [Heap.size_push]
    exact hq
  repeat (first | simp only [Bool.false_eq_true, if_false] | exact fin _ | lk)
  all_goals trace_state
end
section
variable {w : World} {A : Around} {E : Value → Shared → Prop} {s : Shared} {h₀ : Heap} {L : Addr} {m : Str → Option Value} {news : List (Addr × Obj)}
theorem io_new_w {Q : Value → Shared → Prop} (F : Fr h₀ L s.heap m) (X : (hd.heap_1 w.params).In h₀) (N : News h₀ L s.heap news)
    (h : ∀ x dx h', Fr h₀ L h' m → News h₀ L h' ((x, instObj 587 dx) :: (dx, dictOf [] 0) :: news) → (∀ p ∈ news, p.1 < dx) → dx < x → Q (.ref x) { s with heap := h' }) :
    wpAny (model prog w) A (call (.builtin "object.__new__") [.ref 587]) Q E s := by
  refine wpAny_call (io_new (X.keeps F.keep) ?_)
  have := (N.push F emptyDict).push (F.push _) (instObj 587 s.heap.objs.size)
  rw [Heap.size_push] at this
  exact h _ s.heap.objs.size _ ((F.push _).push _) this (fun p hp => Heap.lt_size (N p hp).1) (Nat.lt_succ_self _)
end
end Mine
local macro_rules | `(tactic| walk_at "call builtin:object.__new__") => `(tactic| (k_here; k_dflt (refine' Mine.io_new_w ?k1 ?k2 ?k3 ?_; (case k1 => k_asm); (case k2 => k_asm); (case k3 => k_asm); k_whole); intro x' d' h' F' N' l1 l2; (try k_lt l1); (try k_lt2 l2); (try k_sweep)))
namespace Mine
section
variable {w : World} {A₀ : Around} {base h₀ : Heap} {outer : List Env} {L : Addr} {m mg mb : Str → Option Value} {loose : List Str} {mean : ExcName → Option Value} {s : Shared} {Q E : Value → Shared → Prop} {p : Program}
  {hdl : Option Value} {d u : Nat} {gs : Option (List Code)} {rest : List (Addr × Obj)} {ns : List (Str × NameKind)} {ig ic : Bool} {mo : List (Str × Const)} {gl bi : Addr} {cs : List (Str × Addr)} {qn : Str} {fo : Option Addr} {cdv : Value}
theorem news_drop2 {h₀ h : Heap} {L : Addr} {a b c d : Addr × Obj} {rest : List (Addr × Obj)} (N : News h₀ L h (a :: b :: c :: d :: rest)) : News h₀ L h (a :: b :: rest) := by
  intro q hq
  refine N q ?_
  rcases List.mem_cons.mp hq with rfl | hq
  · exact .head _
  · rcases List.mem_cons.mp hq with rfl | hq
    · exact .tail _ (.head _)
    · exact .tail _ (.tail _ (.tail _ (.tail _ hq)))
theorem io_make {x : Str} {tk : Tok}
  (B : Below A₀ base outer h₀) (F : Fr h₀ L s.heap m) (X : (hd.heap_1 w.params).In h₀) (T : Top p loose mean mg mb h₀) (hdp : d < 980) (hun : u < 9800)
  (hx : x.length ≤ 100000)
  (N : News h₀ L s.heap rest)
  (hQ : ∀ io iod h' kt t k, Fr h₀ L h' m → News h₀ L h' ((io, instObj 587 iod) :: (iod, ioD w.params kt x 0 t) :: rest) → AllLt iod rest → @LT.lt Nat _ iod io → Q (.ref io) { s with heap := h', toks := k })
  : wpAny (model prog w) (ar hdl d (fenv ns ig ic mo gl cs qn fo cdv bi L :: outer) gs u) (call (.ref 587) [.str x tk]) Q E s := by
  have XS := X.keeps F.keep
  have hC := XS 587 _ (by k_is)
  have typ : Looks (model prog w) s.heap (isInstance (.ref 587) (.type "type")) true := looks_instIn XS (by k_is)
  have cl : Looks (model prog w) s.heap (specialOf (.ref 587) "__call__") (some (.builtin "type.__call__")) := looks_specialIn XS (by k_is)
  have made : Looks (model prog w) s.heap (Bind.madeBy (.ref 587)) none := Looks.of_peek XS (by kernel_rfl)
  have mro : Looks (model prog w) s.heap (mroOf (.ref 587)) [.ref 587, .ref 110, .ref 83, .type "object"] := Looks.of_peek XS (by kernel_rfl)
  refine wpAny_call (codeAny_of_tree ?_)
  show wpAny _ _ (callAny (.ref 587) _) _ _ _
  refine nd_load hC ?_
  show wpAny _ _ (callAny.viaDunder (.ref 587) _) _ _ _
  unfold callAny.viaDunder
  refine wpAny_bind (cl.here ?_)
  dsimp only
  rw [tc_bind]
  refine wpAny_bind (wpAny_pure (wpAny_bind (wpAny_pure ?_)))
  refine wpAny_pure (a := Fin.again (.call (.builtin "type.__call__") ⟨[.ref 587, .str x tk], []⟩)) (And.intro rfl ?_)
  refine codeAny_call_builtin_at (Code.quiet_builtin _ (by decide +kernel)) entry_typeCall (check_slot tc_kind tc_split typ (tc_args _ _ _) ?_)
  unfold Builtin.«type.__call__»
  refine wpAny_bind (mro.here ?_)
  simp only [List.isEmpty_cons, Bool.false_eq_true, if_false]
  refine wpAny_bind (made.here ?_)
  dsimp only
  refine wpAny_bind ?_
  walk1
  refine wpAny_bind (wpAny_holding ?_)
  k_steps
  rename Fr h₀ L _ m => kF
  rename News h₀ L _ _ => kN
  rename (hd.heap_1 w.params).In h₀ => _X2
  have XS2 := X.keeps kF.keep
  have I := InstAt.of_news (C := 587) kN (List.Mem.head _) (List.Mem.tail _ (List.Mem.head _))
  have sub : Looks (model prog w) _ (isSubtype (.ref 587) (.ref 587)) true := looks_subIn XS2 (by k_is)
  refine wpAny_bind ?_
  unfold isInstance
  refine wpAny_bind (I.type.here (sub.here ?_))
  simp only [Bool.not_true, Bool.false_eq_true, if_false]
  refine wpAny_bind (wpAny_holding (special_fn XS2 I (by k_is) (by k_is) ?_))
  k_steps
  rw [if_neg (by decide)]
  refine wpAny_pure ?_
  rename News h₀ L _ _ => kN2
  rename Fr h₀ L _ m => kF2
  rename _ ∧ _ ∧ _ => hl
  exact hQ _ _ _ ⟨_, _, _, _, _⟩ _ _ kF2 (news_drop2 kN2) hl.2.2 (by assumption)
end
end Mine

end
section
namespace Mine
theorem allLt_ne {d : Addr} : ∀ {l : List (Addr × Obj)}, AllLt d l → ∀ p ∈ l, p.1 ≠ d
  | [], _, _, hp => nomatch hp
  | _ :: _, h, _, .head _ => Nat.ne_of_lt h.1
  | _ :: _, h, _, .tail _ hp => allLt_ne h.2 _ hp
end Mine
local macro_rules | `(tactic| k_all) => `(tactic| exact Mine.allLt_ne (by with_reducible assumption))
local macro_rules | `(tactic| walk_at "call type:collections.deque") => `(tactic| (k_here; k_dflt (refine' Mine.dq_new ?k1 ?k2 ?_; (case k1 => k_asm); (case k2 => k_asm); k_whole); intro q' h' F' N' l1; (try k_lt l1); (try k_sweep)))
local macro_rules | `(tactic| walk_at "call ref") => `(tactic| (k_here; (with_reducible show wpAny _ _ (call (Value.ref 587) [Value.str _ _]) _ _ _); k_dflt (refine' Mine.io_make ?k1 ?k2 ?k3 ?k4 ?k5 ?k6 ?k7 ?k8 ?_; (case k1 => k_asm); (case k2 => k_asm); (case k3 => k_asm); (case k4 => k_asm); (case k5 => (first | k_room | k_units)); (case k6 => (first | k_room | k_units)); (case k7 => assumption); (case k8 => k_asm); k_whole); intro io' iod' h' kt' t' k' F' N' l1 l2; (try simp only [AllLt, and_true] at l1); (try k_sweep)))
namespace Mine
section
variable {w : World} {A₀ : Around} {base h₀ : Heap} {outer : List Env} {L : Addr} {m mg mb : Str → Option Value} {loose : List Str} {mean : ExcName → Option Value} {s : Shared} {Q E : Value → Shared → Prop} {p : Program}
  {hdl : Option Value} {d u : Nat} {gs : Option (List Code)} {rest : List (Addr × Obj)} {ns : List (Str × NameKind)} {ig ic : Bool} {mo : List (Str × Const)} {gl bi : Addr} {cs : List (Str × Addr)} {qn : Str} {fo : Option Addr} {cdv : Value}
def WC (b : Bool) : Str := if b then Str.ofString "abcdfeghijklmnopqrstuvwxyzABCDEFGHIJKLMNOPQRSTUVWXYZ0123456789_ßàáâãäåæçèéêëìíîïðñòóôõöøùúûüýþÿÀÁÂÃÄÅÆÇÈÉÊËÌÍÎÏÐÑÒÓÔÕÖØÙÚÛÜÝÞ" else Str.ofString "abcdfeghijklmnopqrstuvwxyzABCDEFGHIJKLMNOPQRSTUVWXYZ0123456789_"
def EV (b : Bool) (v : Value) : Prop := if b then v = .none else ∃ t, v = .str (Str.ofString "") t
theorem ctor_ord {h : Heap} {a b c d e f : Addr × Obj} {rest : List (Addr × Obj)} (N : News h₀ L h (f :: c :: a :: b :: d :: e :: rest)) : News h₀ L h (a :: b :: c :: d :: e :: f :: rest) := by
  intro q hq
  refine N q ?_
  simp only [List.mem_cons] at hq ⊢
  rcases hq with h | h | h | h | h | h | h <;> simp [h]
theorem ctor {x : Str} {b : Bool} {tk : Tok}
  (B : Below A₀ base outer h₀) (F : Fr h₀ L s.heap m) (X : (hd.heap_1 w.params).In h₀) (T : Top p loose mean mg mb h₀) (hdp : d < 900) (hun : u < 9000)
  (hx : x.length ≤ 100000)
  (N : News h₀ L s.heap rest)
  (hQ : ∀ lx dx io iod pb fs h' kt T ev t1 ts tl tt k, Fr h₀ L h' m → EV b ev → @LT.lt Nat _ dx lx → @LT.lt Nat _ lx iod → @LT.lt Nat _ iod io → @LT.lt Nat _ io pb → @LT.lt Nat _ pb fs → AllLt dx rest → AllLt iod rest → AllLt pb rest → AllLt fs rest → 
    News h₀ L h' ((io, instObj 587 iod) :: (iod, ioD w.params kt x 0 t1) :: (pb, dqO [] 0) :: (lx, instObj 722 dx) ::
      (dx, lexD w.params T b false ev (Str.ofString "#") (WC b) pb fs io .none (.str (Str.ofString " ") ts) 1 tl (Str.ofString "") tt) :: (fs, dqO [] 0) :: rest) → Q (.ref lx) { s with heap := h', toks := k })
  : wpAny (model prog w) (ar hdl d (fenv ns ig ic mo gl cs qn fo cdv bi L :: outer) gs u) (call (.ref 722) [.str x tk] [(Str.ofString "posix", .bool b)]) Q E s := by
  k_steps
  all_goals (
    rename News h₀ L _ _ => kN2
    rename Fr h₀ L _ m => kF2
    rename ∀ p, p ∈ rest → _ => hl0
    replace hl0 := allLt_of hl0
    rename _ ∧ _ ∧ _ ∧ _ ∧ _ ∧ AllLt _ rest => hl1
    rename _ ∧ _ ∧ _ ∧ _ ∧ AllLt _ rest => hl2
    rename _ ∧ _ ∧ AllLt _ rest => hl3)
  · rename b = true => hb
    subst hb
    refine hQ _ _ _ _ _ _ _ _ ⟨_, _, _, _, _, _, _, _, _, _, _, _, _, _, _, _, _, _, _, _, _, _, _, _, _, _, _⟩ _ _ _ _ _ _ kF2 ?e1 ?e2 ?e3 ?e4 ?e5 ?e6 ?e7 ?e8 ?e9 ?e10 (ctor_ord kN2)
    case e1 => exact rfl
    all_goals first | assumption | exact hl1.1 | exact hl1.2.1 | exact hl2.1 | exact hl3.1 | exact hl3.2.2 | exact hl2.2.2.2.2 | exact hl1.2.2.2.2.2 
  · first | (rename b = false => hb; subst hb) | (rename ¬ b = true => hb; rw [Bool.not_eq_true] at hb; subst hb) | (rename ¬ (b = true) => hb; trace_state)
    refine hQ _ _ _ _ _ _ _ _ ⟨_, _, _, _, _, _, _, _, _, _, _, _, _, _, _, _, _, _, _, _, _, _, _, _, _, _, _⟩ _ _ _ _ _ _ kF2 ?g1 ?g2 ?g3 ?g4 ?g5 ?g6 ?g7 ?g8 ?g9 ?g10 (ctor_ord kN2)
    case g1 => exact ⟨_, rfl⟩
    all_goals first | assumption | exact hl1.1 | exact hl1.2.1 | exact hl2.1 | exact hl3.1 | exact hl3.2.2 | exact hl2.2.2.2.2 | exact hl1.2.2.2.2.2 
end
end Mine

end
section
namespace Mine
/-! the plain reading of read_token for texts without quotes and backslashes, no punctuation -/
inductive LSt where | fin | white | word
deriving DecidableEq
def wsS : Str := Str.ofString " \t\x0d\n"
def isWs (c : Nat) : Bool := (Str.ofString " \t\x0d\n").cps.toList.contains c
def isCm (c : Nat) : Bool := (Str.ofString "#").cps.toList.contains c
def Plain (c : Nat) : Prop := (Str.ofString "'\"").cps.toList.contains c = false ∧ (Str.ofString "\\").cps.toList.contains c = false
def dropLine : List Nat → List Nat
  | [] => []
  | c :: r => if c == 10 then r else dropLine r
theorem dropLine_le : ∀ l : List Nat, (dropLine l).length ≤ l.length
  | [] => Nat.le_refl _
  | c :: r => by
    unfold dropLine
    split
    · simp
    · have := dropLine_le r; simp; omega
theorem dropLine_at : ∀ (l : List Nat) (k : Nat), l[k]? = some 10 → (∀ j : Nat, j < k → l[j]? ≠ some 10) → dropLine l = l.drop (k + 1)
  | [], k, h, _ => by simp at h
  | c :: r, 0, h, _ => by
    have : c = 10 := by simpa using h
    subst this
    simp [dropLine]
  | c :: r, k + 1, h, hn => by
    have hc : (c == 10) = false := by
      have := hn 0 (by omega)
      simpa using this
    unfold dropLine
    rw [hc]
    simp only [Bool.false_eq_true, if_false]
    rw [dropLine_at r k (by simpa using h) (fun j hj => by have := hn (j + 1) (by omega); simpa using this)]
    simp
theorem dropLine_none : ∀ (l : List Nat), (∀ j : Nat, l[j]? ≠ some 10) → dropLine l = []
  | [], _ => rfl
  | c :: r, hn => by
    have hc : (c == 10) = false := by
      have := hn 0
      simpa using this
    unfold dropLine
    rw [hc]
    simp only [Bool.false_eq_true, if_false]
    exact dropLine_none r (fun j => by have := hn (j + 1); simpa using this)
structure RtR where
  tok : List Nat
  st : LSt
  rem : List Nat
  ln : Int
  over : Option Nat
def rt (b : Bool) (W : Nat → Bool) : LSt → List Nat → List Nat → Int → RtR
  | .fin, _, rem, ln => ⟨[], .fin, rem, ln, none⟩
  | .white, tok, [], ln => ⟨tok, .fin, [], ln, none⟩
  | .white, tok, c :: r, ln =>
    if isWs c then rt b W .white tok r (if c == 10 then ln + 1 else ln)
    else if isCm c then rt b W .white tok (dropLine r) (ln + 1)
    else if W c then rt b W .word [c] r ln
    else ⟨[c], .white, r, ln, none⟩
  | .word, tok, [], ln => ⟨tok, .fin, [], ln, none⟩
  | .word, tok, c :: r, ln =>
    if isWs c then ⟨tok, .white, r, if c == 10 then ln + 1 else ln, none⟩
    else if isCm c then (if b then ⟨tok, .white, dropLine r, ln + 1, none⟩ else rt b W .word tok (dropLine r) (ln + 1))
    else if W c then rt b W .word (tok ++ [c]) r ln
    else ⟨tok, .white, r, ln, some c⟩
termination_by _ _ rem _ => rem.length
decreasing_by
  all_goals simp_wf
  all_goals first | omega | (have := dropLine_le r; omega)
def SV : LSt → Value → Prop
  | .fin, v => v = .none
  | .white, v => ∃ t, v = .str (Str.ofString " ") t
  | .word, v => ∃ t, v = .str (Str.ofString "a") t
def S (l : List Nat) : Str := ⟨l.toArray⟩
theorem S_nil : Str.ofString "" = S [] := by decide +kernel
structure LS where
  sv : Value
  ln : Int
  tl : Tok
  tok : Str
  tt : Tok
  pos : Nat
  tp : Tok
  pbs : List Value
  pn : Int
def OV : Option Nat → List Value → List Value → Prop
  | none, a, b => a = b
  | some c, a, b => ∃ t, a = .str ⟨#[c]⟩ t :: b
def RV (b : Bool) (tok : List Nat) (v : Value) : Prop := if b && tok.isEmpty then v = .none else ∃ t, v = .str (S tok) t
theorem drop_next {l : List Nat} {p c : Nat} {r : List Nat} (h : l.drop p = c :: r) : l.drop (p + 1) = r ∧ p + 1 ≤ l.length := by
  have h1 : l.drop (p + 1) = (l.drop p).drop 1 := by rw [List.drop_drop]
  have h2 := congrArg List.length h
  simp at h2
  refine ⟨by rw [h1, h]; rfl, by omega⟩
theorem dropLine_sub : ∀ (l : List Nat), ∀ c ∈ dropLine l, c ∈ l
  | [], _, h => h
  | a :: r, c, h => by
    unfold dropLine at h
    split at h
    · exact .tail _ h
    · exact .tail _ (dropLine_sub r c h)
end Mine

end
section
namespace Mine
/-! _law_without_comments, plain -/
/-- cf b k l: what is left of l, k: within a comment -/
def cf (b : Bool) : Bool → List Nat → List Nat
  | k, [] => if k && !b then [] else [10]
  | k, c :: r =>
    if c == 10 then (if k && !b then cf b false r else 10 :: cf b false r)
    else if k then cf b true r
    else if c == 35 then cf b true r
    else c :: cf b false r
def lnOut (b : Bool) (y : List Nat) : List Nat := y.takeWhile (· != 35) ++ (if b || !y.contains 35 then [10] else [])
theorem cf_com (b : Bool) : ∀ (y r : List Nat), 10 ∉ y → cf b true (y ++ 10 :: r) = (if b then [10] else []) ++ cf b false r
  | [], r, _ => by cases b <;> simp [cf]
  | c :: y, r, h => by
    have hc : (c == 10) = false := by simp at h ⊢; exact fun e => h.1 e.symm
    have ih := cf_com b y r (fun hm => h (.tail _ hm))
    rw [List.cons_append, cf, hc]
    simpa using ih
theorem cf_com0 (b : Bool) : ∀ (y : List Nat), 10 ∉ y → cf b true y = if b then [10] else []
  | [], _ => by cases b <;> simp [cf]
  | c :: y, h => by
    have hc : (c == 10) = false := by simp at h ⊢; exact fun e => h.1 e.symm
    have ih := cf_com0 b y (fun hm => h (.tail _ hm))
    rw [cf, hc]
    simpa using ih
theorem lnOut_cons {b : Bool} {c : Nat} {y : List Nat} (h : (c == 35) = false) : lnOut b (c :: y) = c :: lnOut b y := by
  unfold lnOut
  have h1 : (c != 35) = true := by simp [bne, h]
  have h2 : (c :: y).contains 35 = y.contains 35 := by
    rw [List.contains_cons]
    have : ((35 : Nat) == c) = false := by simp at h ⊢; exact fun e => h e.symm
    rw [this, Bool.false_or]
  rw [List.takeWhile_cons, if_pos h1, h2]
  rfl
theorem lnOut_com {b : Bool} {y : List Nat} : lnOut b (35 :: y) = if b then [10] else [] := by
  cases b <;> simp [lnOut]
theorem cf_line (b : Bool) : ∀ (y r : List Nat), 10 ∉ y → cf b false (y ++ 10 :: r) = lnOut b y ++ cf b false r
  | [], r, _ => by simp [cf, lnOut]
  | c :: y, r, h => by
    have hc : (c == 10) = false := by simp at h ⊢; exact fun e => h.1 e.symm
    have hy : 10 ∉ y := fun hm => h (.tail _ hm)
    rw [List.cons_append, cf, hc]
    cases h35 : (c == 35) with
    | true =>
      have : c = 35 := by simpa using h35
      subst this
      simp only [Bool.false_eq_true, if_false, if_true]
      rw [cf_com b y r hy, lnOut_com]
    | false =>
      simp only [Bool.false_eq_true, if_false]
      rw [cf_line b y r hy, lnOut_cons h35]
      rfl
theorem cf_line0 (b : Bool) : ∀ (y : List Nat), 10 ∉ y → cf b false y = lnOut b y
  | [], _ => by simp [cf, lnOut]
  | c :: y, h => by
    have hc : (c == 10) = false := by simp at h ⊢; exact fun e => h.1 e.symm
    have hy : 10 ∉ y := fun hm => h (.tail _ hm)
    rw [cf, hc]
    cases h35 : (c == 35) with
    | true =>
      have : c = 35 := by simpa using h35
      subst this
      simp only [Bool.false_eq_true, if_false, if_true]
      rw [cf_com0 b y hy, lnOut_com]
    | false =>
      simp only [Bool.false_eq_true, if_false]
      rw [cf_line0 b y hy, lnOut_cons h35]
def lnsOut (b : Bool) (ws : List Str) : List Nat := ws.flatMap fun y => lnOut b y.cps.toList
theorem cf_join (b : Bool) : ∀ (ws : List Str), ws ≠ [] → (∀ y ∈ ws, 10 ∉ y.cps.toList) → cf b false (Str.join ⟨#[10]⟩ ws).cps.toList = lnsOut b ws
  | [], h, _ => absurd rfl h
  | [y], _, h => by
    show cf b false y.cps.toList = _
    rw [cf_line0 b _ (h y (.head _))]
    simp [lnsOut]
  | y :: z :: r, _, h => by
    have ih := cf_join b (z :: r) (by simp) (fun q hq => h q (.tail _ hq))
    have e : (Str.join ⟨#[10]⟩ (y :: z :: r)).cps.toList = y.cps.toList ++ 10 :: (Str.join ⟨#[10]⟩ (z :: r)).cps.toList := by
      show (y ++ (⟨#[10]⟩ : Str) ++ Str.join ⟨#[10]⟩ (z :: r)).cps.toList = _
      rw [Str.cps_append, Str.cps_append]
      simp
    rw [e, cf_line b _ _ (h y (.head _)), ih]
    rfl
theorem split_ne (x y : Str) : Txt.split x y ≠ [] := by
  unfold Txt.split
  split
  · simp
  · split
    · simp
    · intro h
      have := length_partsBetween x (Builtin.Str.occurrences x y 0 x.length (x.length + 1)) y.length
      rw [h] at this
      simp at this
theorem cf_split (b : Bool) (x : Str) : lnsOut b (Txt.split x ⟨#[10]⟩) = cf b false x.cps.toList := by
  rw [← cf_join b _ (split_ne x _) (StrLaws.split_free x 10), StrLaws.join_split]
theorem cf_len (b : Bool) : ∀ (k : Bool) (l : List Nat), (cf b k l).length ≤ l.length + 1
  | k, [] => by unfold cf; split <;> simp
  | k, c :: r => by
    have h1 := cf_len b false r
    have h2 := cf_len b true r
    unfold cf
    split
    · split <;> simp <;> omega
    · split
      · simp; omega
      · split <;> simp <;> omega
theorem cf_all (b : Bool) {P : Nat → Prop} (h10 : P 10) : ∀ (k : Bool) (l : List Nat), (∀ c ∈ l, P c) → ∀ c ∈ cf b k l, P c
  | k, [], _ => by
    unfold cf; split <;> simp [h10]
  | k, c :: r, h => by
    have h1 := cf_all b h10 false r (fun c hc => h c (.tail _ hc))
    have h2 := cf_all b h10 true r (fun c hc => h c (.tail _ hc))
    unfold cf
    split
    · split
      · exact h1
      · intro a ha
        rcases List.mem_cons.mp ha with rfl | ha
        · exact h10
        · exact h1 a ha
    · split
      · exact h2
      · split
        · exact h2
        · intro a ha
          rcases List.mem_cons.mp ha with rfl | ha
          · exact h _ (.head _)
          · exact h1 a ha
open Builtin Builtin.Str in
theorem part_one (x : Str) : (Txt.partition x ⟨#[35]⟩).1.cps.toList = x.cps.toList.takeWhile (· != 35) := by
  unfold Txt.partition
  rcases StrLaws.occ_head x ⟨#[35]⟩ 1 (Nat.le_refl 1) with ⟨e, hn⟩ | ⟨i, r, e, hi, hn⟩
  · rw [e]
    have hf := StrLaws.part_free x 35 0 x.length (Nat.le_refl _) (fun k _ _ => hn k)
    rw [StrLaws.sub_whole] at hf
    show x.cps.toList = _
    have h1 := List.takeWhile_append_of_pos (p := fun c => c != 35) (l₁ := x.cps.toList) (l₂ := []) (fun a ha => by simp only [bne_iff_ne, ne_eq]; rintro rfl; exact hf ha)
    simpa using h1.symm
  · rw [e]
    have hf := StrLaws.part_free x 35 0 i (by have := hi.1; simp [Str.length] at this ⊢; omega) (fun k _ h => hn k h)
    have h35 := (StrLaws.subAt_one x 35 i).mp hi
    show (strSub x 0 i).cps.toList = _
    rw [StrLaws.strSub_toList] at hf ⊢
    simp only [List.drop_zero, Nat.sub_zero] at hf ⊢
    have e2 : x.cps.toList = x.cps.toList.take i ++ 35 :: x.cps.toList.drop (i + 1) := by
      have hlt : i < x.cps.toList.length := (List.getElem?_eq_some_iff.mp h35).1
      have h3 : x.cps.toList[i] = 35 := (List.getElem?_eq_some_iff.mp h35).2
      rw [← h3, ← List.drop_eq_getElem_cons hlt, List.take_append_drop]
    generalize hA : x.cps.toList.take i = A at hf e2
    rw [e2]
    rw [List.takeWhile_append_of_pos (fun a ha => by simp only [bne_iff_ne, ne_eq]; rintro rfl; exact hf ha)]
    simp
end Mine

end
section
namespace Mine
/-! the row of tokens: given, over -/
structure GF where
  gi : List (List Nat)
  ov : List Nat
  bf : Bool
def gstep (W : Nat → Bool) (g : GF) (c : Nat) : GF :=
  if W c then (if g.bf then ⟨g.gi.dropLast ++ [g.gi.getLast?.getD [] ++ [c]], g.ov, true⟩ else ⟨g.gi ++ [[c]], g.ov, true⟩)
  else if isWs c then ⟨g.gi, g.ov, false⟩
  else if g.bf then ⟨g.gi, g.ov ++ [c], false⟩ else ⟨g.gi ++ [[c]], g.ov, false⟩
def gfold (W : Nat → Bool) (g : GF) (l : List Nat) : GF := l.foldl (gstep W) g
def GF.out (g : GF) : List (List Nat) × List Nat := (g.gi, g.ov)
theorem ws10 : isWs 10 = true := by decide +kernel
theorem cm_iff (c : Nat) : isCm c = (c == 35) := by
  have : (Str.ofString "#").cps.toList = [35] := by decide +kernel
  unfold isCm
  rw [this, List.contains_cons, List.contains_nil, Bool.or_false]
theorem ws35 {c : Nat} (h : isWs c = true) : (c == 35) = false := by
  have : (Str.ofString " \t\x0d\n").cps.toList = [32, 9, 13, 10] := by decide +kernel
  unfold isWs at h
  rw [this] at h
  simp at h ⊢
  omega
structure WOk (W : Nat → Bool) : Prop where
  ws : ∀ c, isWs c = true → W c = false
section
variable {b : Bool} {W : Nat → Bool} (hW : WOk W)
include hW
theorem gstep_ws {g : GF} {c : Nat} (h : isWs c = true) : gstep W g c = ⟨g.gi, g.ov, false⟩ := by
  unfold gstep
  rw [hW.ws c h, h]; rfl
theorem gstep10 {g : GF} : gstep W g 10 = ⟨g.gi, g.ov, false⟩ := gstep_ws hW ws10
/-- out of a fold depends on gi, ov alone where the state starts so -/
theorem cf_true (g : GF) : ∀ l : List Nat, (gfold W g (cf b true l)).out = (gfold W (if b then ⟨g.gi, g.ov, false⟩ else g) (cf b false (dropLine l))).out
  | [] => by
    cases b with
    | true => simp [cf, gfold, dropLine, gstep10 hW]
    | false => simp [cf, gfold, dropLine, gstep10 hW, GF.out]
  | c :: r => by
    rw [cf, dropLine]
    cases hc : (c == 10) with
    | true =>
      cases b with
      | true => simp [gfold, gstep10 hW]
      | false => simp [gfold]
    | false =>
      simp only [Bool.false_eq_true, if_false, if_true]
      exact cf_true g r
structure RtOk (b : Bool) (W : Nat → Bool) (gi : List (List Nat)) (ov : List Nat) (g : GF) (rem : List Nat) (r : RtR) : Prop where
  ne : r.tok ≠ []
  le : r.rem.length ≤ rem.length
  st : r.st = .white ∨ (r.st = .fin ∧ r.rem = [])
  out : (gfold W g (cf b false rem)).out = (gfold W ⟨gi ++ [r.tok], ov ++ r.over.toList, false⟩ (cf b false r.rem)).out
theorem rt_word (gi : List (List Nat)) (ov : List Nat) : ∀ (n : Nat) (rem : List Nat) (tok : List Nat) (ln : Int), rem.length ≤ n → tok ≠ [] → RtOk b W gi ov ⟨gi ++ [tok], ov, true⟩ rem (rt b W .word tok rem ln)
  | n, [], tok, ln, _, ht => by
    rw [rt]
    refine ⟨ht, Nat.le_refl _, .inr ⟨rfl, rfl⟩, ?_⟩
    simp [cf, gfold, gstep10 hW, GF.out]
  | 0, c :: r, tok, ln, hn, ht => by simp at hn
  | n + 1, c :: r, tok, ln, hn, ht => by
    have hn' : r.length ≤ n := by simpa using hn
    have hd := dropLine_le r
    rw [rt]
    cases hws : isWs c with
    | true =>
      simp only [if_true]
      refine ⟨ht, by simp, .inl rfl, ?_⟩
      have e : cf b false (c :: r) = c :: cf b false r := by
        rw [cf, ws35 hws]
        cases hc : (c == 10) with
        | true => rw [beq_iff_eq.mp hc]; simp
        | false => simp
      rw [e]
      show (gfold W (gstep W _ c) (cf b false r)).out = _
      rw [gstep_ws hW hws]
      simp
    | false =>
      have h10 : (c == 10) = false := by
        cases hc : (c == 10) with
        | false => rfl
        | true => rw [beq_iff_eq.mp hc, ws10] at hws; cases hws
      cases hcm : isCm c with
      | true =>
        have h35 : (c == 35) = true := by rw [← cm_iff]; exact hcm
        have e : cf b false (c :: r) = cf b true r := by rw [cf, h10, h35]; simp
        have ih := rt_word gi ov n (dropLine r) tok (ln + 1) (by omega) ht
        cases b with
        | true =>
          simp only [if_true, if_false, Bool.false_eq_true]
          refine ⟨ht, by simp; omega, .inl rfl, ?_⟩
          rw [e, cf_true hW]
          simp
        | false =>
          simp only [if_true, if_false, Bool.false_eq_true]
          refine ⟨ih.ne, by have := ih.le; simp; omega, ih.st, ?_⟩
          rw [e, cf_true hW]
          exact ih.out
      | false =>
        have h35 : (c == 35) = false := by rw [← cm_iff]; exact hcm
        have e : cf b false (c :: r) = c :: cf b false r := by rw [cf, h10, h35]; simp
        cases hw : W c with
        | true =>
          simp only [if_true, if_false, Bool.false_eq_true]
          have ih := rt_word gi ov n r (tok ++ [c]) ln hn' (by simp)
          refine ⟨ih.ne, by have := ih.le; simp; omega, ih.st, ?_⟩
          rw [e]
          show (gfold W (gstep W _ c) (cf b false r)).out = _
          have e2 : gstep W ⟨gi ++ [tok], ov, true⟩ c = ⟨gi ++ [tok ++ [c]], ov, true⟩ := by
            unfold gstep
            simp [hw]
          rw [e2]
          exact ih.out
        | false =>
          simp only [if_false, Bool.false_eq_true]
          refine ⟨ht, by simp, .inl rfl, ?_⟩
          rw [e]
          show (gfold W (gstep W _ c) (cf b false r)).out = _
          have e2 : gstep W ⟨gi ++ [tok], ov, true⟩ c = ⟨gi ++ [tok], ov ++ [c], false⟩ := by
            unfold gstep
            simp [hw, hws]
          rw [e2]
          simp
structure RwOk (b : Bool) (W : Nat → Bool) (gi : List (List Nat)) (ov : List Nat) (rem : List Nat) (r : RtR) : Prop where
  lt : r.tok ≠ [] → r.rem.length < rem.length
  st : r.st = .white ∨ (r.st = .fin ∧ r.rem = [])
  nil : r.tok = [] → r.st = .fin ∧ r.rem = [] ∧ r.over = none
  out : (gfold W ⟨gi, ov, false⟩ (cf b false rem)).out = (gfold W ⟨if r.tok.isEmpty then gi else gi ++ [r.tok], ov ++ r.over.toList, false⟩ (cf b false r.rem)).out
theorem rt_white (gi : List (List Nat)) (ov : List Nat) : ∀ (n : Nat) (rem : List Nat) (ln : Int), rem.length ≤ n → RwOk b W gi ov rem (rt b W .white [] rem ln)
  | n, [], ln, _ => by
    rw [rt]
    exact ⟨fun h => absurd rfl h, .inr ⟨rfl, rfl⟩, fun _ => ⟨rfl, rfl, rfl⟩, by simp⟩
  | 0, c :: r, ln, hn => by simp at hn
  | n + 1, c :: r, ln, hn => by
    have hn' : r.length ≤ n := by simpa using hn
    have hd := dropLine_le r
    rw [rt]
    cases hws : isWs c with
    | true =>
      simp only [if_true]
      have e : cf b false (c :: r) = c :: cf b false r := by
        rw [cf, ws35 hws]
        cases hc : (c == 10) with
        | true => rw [beq_iff_eq.mp hc]; simp
        | false => simp
      have ih := rt_white gi ov n r (if c == 10 then ln + 1 else ln) hn'
      refine ⟨fun h => by have := ih.lt h; simp only [List.length_cons]; omega, ih.st, ih.nil, ?_⟩
      rw [e]
      show (gfold W (gstep W _ c) (cf b false r)).out = _
      rw [gstep_ws hW hws]
      exact ih.out
    | false =>
      have h10 : (c == 10) = false := by
        cases hc : (c == 10) with
        | false => rfl
        | true => rw [beq_iff_eq.mp hc, ws10] at hws; cases hws
      cases hcm : isCm c with
      | true =>
        have h35 : (c == 35) = true := by rw [← cm_iff]; exact hcm
        have e : cf b false (c :: r) = cf b true r := by rw [cf, h10, h35]; simp
        simp only [if_true, if_false, Bool.false_eq_true]
        have ih := rt_white gi ov n (dropLine r) (ln + 1) (by omega)
        refine ⟨fun h => by have := ih.lt h; simp only [List.length_cons]; omega, ih.st, ih.nil, ?_⟩
        rw [e, cf_true hW]
        have e2 : (if b = true then (⟨gi, ov, false⟩ : GF) else ⟨gi, ov, false⟩) = ⟨gi, ov, false⟩ := by cases b <;> rfl
        rw [e2]
        exact ih.out
      | false =>
        have h35 : (c == 35) = false := by rw [← cm_iff]; exact hcm
        have e : cf b false (c :: r) = c :: cf b false r := by rw [cf, h10, h35]; simp
        cases hw : W c with
        | true =>
          simp only [if_true, if_false, Bool.false_eq_true]
          have ih := rt_word (b := b) hW gi ov n r [c] ln hn' (by simp)
          have hne : (rt b W .word [c] r ln).tok.isEmpty = false := by
            have := ih.ne
            cases h : (rt b W .word [c] r ln).tok with
            | nil => exact absurd h this
            | cons => rfl
          refine ⟨fun _ => by have := ih.le; simp; omega, ih.st, fun h => absurd h ih.ne, ?_⟩
          rw [e]
          show (gfold W (gstep W _ c) (cf b false r)).out = _
          have e2 : gstep W ⟨gi, ov, false⟩ c = ⟨gi ++ [[c]], ov, true⟩ := by
            unfold gstep
            simp [hw]
          rw [e2, hne]
          exact ih.out
        | false =>
          simp only [if_false, Bool.false_eq_true]
          refine ⟨fun _ => by simp, .inl rfl, fun h => by simp at h, ?_⟩
          rw [e]
          show (gfold W (gstep W _ c) (cf b false r)).out = _
          have e2 : gstep W ⟨gi, ov, false⟩ c = ⟨gi ++ [[c]], ov, false⟩ := by
            unfold gstep
            simp [hw, hws]
          rw [e2]
          simp
end
structure RS where
  st : LSt
  rem : List Nat
  ln : Int
  toks : List (List Nat)
  ovs : List Nat
def rstep (b : Bool) (W : Nat → Bool) (q : RS) : RS :=
  ⟨(rt b W q.st [] q.rem q.ln).st, (rt b W q.st [] q.rem q.ln).rem, (rt b W q.st [] q.rem q.ln).ln, q.toks ++ [(rt b W q.st [] q.rem q.ln).tok], q.ovs ++ (rt b W q.st [] q.rem q.ln).over.toList⟩
def riter (b : Bool) (W : Nat → Bool) : Nat → RS → RS
  | 0, q => q
  | n + 1, q => riter b W n (rstep b W q)
theorem riter_succ (b : Bool) (W : Nat → Bool) : ∀ (n : Nat) (q : RS), riter b W (n + 1) q = rstep b W (riter b W n q)
  | 0, _ => rfl
  | n + 1, q => by
    show riter b W (n + 1) (rstep b W q) = _
    rw [riter_succ b W n]
    rfl
theorem riter_fin (b : Bool) (W : Nat → Bool) : ∀ (n : Nat) (q : RS), q.st = .fin → q.rem = [] → riter b W n q = ⟨.fin, [], q.ln, q.toks ++ List.replicate n [], q.ovs⟩
  | 0, ⟨_, _, _, _, _⟩, h1, h2 => by dsimp only at h1 h2; subst h1 h2; simp [riter]
  | n + 1, ⟨_, _, ln, ts, os⟩, h1, h2 => by
    dsimp only at h1 h2
    subst h1 h2
    have e : rstep b W ⟨.fin, [], ln, ts, os⟩ = ⟨.fin, [], ln, ts ++ [[]], os⟩ := by
      unfold rstep
      simp [rt]
    show riter b W n (rstep b W _) = _
    rw [e, riter_fin b W n _ rfl rfl]
    simp [List.replicate_succ]
theorem riter_all {b : Bool} {W : Nat → Bool} (hW : WOk W) : ∀ (n : Nat) (q : RS) (gi : List (List Nat)) (ov : List Nat), q.st = .white → q.rem.length + 1 ≤ n →
    ∃ G O, (∀ t ∈ G, t ≠ []) ∧ G.length ≤ n ∧ (riter b W n q).st = .fin ∧ (riter b W n q).rem = [] ∧ (riter b W n q).toks = q.toks ++ G ++ List.replicate (n - G.length) [] ∧ (riter b W n q).ovs = q.ovs ++ O ∧
      (gfold W ⟨gi, ov, false⟩ (cf b false q.rem)).out = (gi ++ G, ov ++ O)
  | 0, q, _, _, _, h => by omega
  | n + 1, ⟨st, rem, ln, ts, os⟩, gi, ov, hst, hn => by
    dsimp only at hst hn
    subst hst
    have w := rt_white (b := b) hW gi ov rem.length rem ln (Nat.le_refl _)
    show ∃ G O, _ ∧ _ ∧ (riter b W n (rstep b W _)).st = _ ∧ (riter b W n (rstep b W _)).rem = _ ∧ (riter b W n (rstep b W _)).toks = _ ∧ (riter b W n (rstep b W _)).ovs = _ ∧ _
    have hr : rstep b W ⟨.white, rem, ln, ts, os⟩ = ⟨(rt b W .white [] rem ln).st, (rt b W .white [] rem ln).rem, (rt b W .white [] rem ln).ln, ts ++ [(rt b W .white [] rem ln).tok], os ++ (rt b W .white [] rem ln).over.toList⟩ := rfl
    rw [hr]
    generalize rt b W .white [] rem ln = r at w
    by_cases ht : r.tok = []
    · obtain ⟨h1, h2, h3⟩ := w.nil ht
      refine ⟨[], [], by simp, by simp, ?_⟩
      rw [riter_fin b W n _ h1 h2]
      refine ⟨rfl, rfl, ?_, ?_, ?_⟩
      · simp [ht, List.replicate_succ]
      · simp [h3]
      · rw [w.out, h2, h3, ht]
        simp [cf, gfold, gstep10 hW, GF.out]
    · have hne : r.tok.isEmpty = false := by cases h : r.tok with
        | nil => exact absurd h ht
        | cons => rfl
      have hl := w.lt ht
      rcases w.st with h1 | ⟨h1, h2⟩
      · obtain ⟨G, O, g1, g2, g3, g4, g5, g6, g7⟩ := riter_all hW n ⟨r.st, r.rem, r.ln, ts ++ [r.tok], os ++ r.over.toList⟩ (gi ++ [r.tok]) (ov ++ r.over.toList) h1 (by dsimp only; omega)
        refine ⟨r.tok :: G, r.over.toList ++ O, ?_, by simp; omega, g3, g4, ?_, ?_, ?_⟩
        · intro t h
          rcases List.mem_cons.mp h with rfl | h
          · exact ht
          · exact g1 t h
        · rw [g5]; simp
        · rw [g6]; simp
        · dsimp only at g7
          rw [w.out, hne]
          simp only [Bool.false_eq_true, if_false]
          rw [g7]
          simp
      · refine ⟨[r.tok], r.over.toList, by simpa using ht, by simp, ?_⟩
        rw [riter_fin b W n _ h1 h2]
        refine ⟨rfl, rfl, ?_, rfl, ?_⟩
        · simp
        · rw [w.out, hne, h2]
          simp [cf, gfold, gstep10 hW, GF.out]
/-- before tells that given is not empty -/
theorem gfold_bf (W : Nat → Bool) : ∀ (l : List Nat) (g : GF), (g.bf = true → g.gi ≠ []) → (gfold W g l).bf = true → (gfold W g l).gi ≠ []
  | [], _, h => h
  | c :: r, g, h => by
    refine gfold_bf W r (gstep W g c) ?_
    unfold gstep
    split
    · split <;> simp
    · split
      · simp
      · split <;> simp
theorem gfold_snoc (W : Nat → Bool) (g : GF) (l : List Nat) (c : Nat) : gfold W g (l ++ [c]) = gstep W (gfold W g l) c := by
  unfold gfold
  rw [List.foldl_append]; rfl
end Mine

end
section
namespace Mine
section
variable {prog' : Program} {w : World} {A : Around} {E : Value → Shared → Prop} {s : Shared} {Q : Value → Shared → Prop} {c k : Nat} {t u : Tok} {y : Str} {b : Bool}
theorem ite_t {A B : Prop} (h : A) : if true = true then A else B := h
theorem ite_f {A B : Prop} (h : B) : if false = true then A else B := h
theorem in_ch (e : y.cps.toList.contains c = b) (h : Q (.bool b) s) : wpAny (model prog' w) A (compareOp .In (.str ⟨#[c]⟩ t) (.str y u)) Q E s := by
  refine P.in_str ?_
  rw [StrLaws.found_one]
  have : decide (c ∈ y.cps.toList) = y.cps.toList.contains c := by simp
  rw [this, e]; exact h
theorem notin_ch (e : y.cps.toList.contains c = b) (h : Q (.bool (!b)) s) : wpAny (model prog' w) A (compareOp .NotIn (.str ⟨#[c]⟩ t) (.str y u)) Q E s := by
  refine P.notIn_str ?_
  rw [StrLaws.found_one]
  have : decide (c ∈ y.cps.toList) = y.cps.toList.contains c := by simp
  rw [this, e]; exact h
theorem eq_ch (hy : y = ⟨#[k]⟩) (e : (c == k) = b) (h : Q (.bool b) s) : wpAny (model prog' w) A (compareOp .Eq (.str ⟨#[c]⟩ t) (.str y u)) Q E s := by
  refine P.eq_str ?_
  have : ((⟨#[c]⟩ : Str).cps.toList == y.cps.toList) = b := by
    subst hy
    rw [← e]
    simp
  rw [this]; exact h
theorem eq_nl (e : (c == 10) = b) (h : Q (.bool b) s) : wpAny (model prog' w) A (compareOp .Eq (.str ⟨#[c]⟩ t) (.str (Str.ofString "\n") u)) Q E s := eq_ch (k := 10) (by decide +kernel) e h
theorem truthy_ch {Q : Bool → Shared → Prop} (h : Q true { s with toks := s.toks + 1 + 1 }) : wpAny (model prog' w) A (truthy (.str ⟨#[c]⟩ t)) Q E s :=
  P.truthy_str (by show ¬ ((1 : Nat) : Int) ≥ 2 ^ 63; decide) (by exact h)
theorem in_lit_t {x y : Str} (e : (Builtin.Str.occurrences y x 0 y.length 1).isEmpty = false) (h : Q (.bool true) s) : wpAny (model prog' w) A (compareOp .In (.str x t) (.str y u)) Q E s :=
  P.in_str (by rw [e]; exact h)
theorem in_lit_f {x y : Str} (e : (Builtin.Str.occurrences y x 0 y.length 1).isEmpty = true) (h : Q (.bool false) s) : wpAny (model prog' w) A (compareOp .In (.str x t) (.str y u)) Q E s :=
  P.in_str (by rw [e]; exact h)
theorem add_S {l : List Nat} (hl : l.length ≤ 100000) (h : ∀ t' k, Q (.str (S (l ++ [c])) t') { s with toks := k }) : wpAny (model prog' w) A (inplaceOp .Add (.str (S l) t) (.str ⟨#[c]⟩ u)) Q E s := by
  refine PyProof.Rows.iadd_str (fun t' k => ?_) ?_
  · have e : S l ++ (⟨#[c]⟩ : Str) = S (l ++ [c]) := by
      show Str.append _ _ = _
      simp [Str.append, S]
    rw [e]; exact h t' k
  · simp only [S, Str.length, List.size_toArray, sizeLine]
    have : [c].length = 1 := rfl
    omega
theorem truthy_S {l : List Nat} {Q : Bool → Shared → Prop} (e : l.isEmpty = b) (hl : l.length ≤ 100000) (h : Q (!b) { s with toks := s.toks + 1 + 1 }) : wpAny (model prog' w) A (truthy (.str (S l) t)) Q E s := by
  refine P.truthy_str ?_ ?_
  · simp only [S, Str.length, List.size_toArray]; omega
  · subst e
    have : (((S l).length : Int) != 0) = !l.isEmpty := by
      simp only [S, Str.length, List.size_toArray]
      cases l with
      | nil => rfl
      | cons a r => simp; omega
    rw [this]; exact h
theorem eq_S {l : List Nat} (e : l.isEmpty = b) (h : Q (.bool b) s) : wpAny (model prog' w) A (compareOp .Eq (.str (S l) t) (.str (Str.ofString "") u)) Q E s := by
  refine P.eq_str ?_
  have : ((S l).cps.toList == (Str.ofString "").cps.toList) = b := by
    subst e
    rw [S_nil]
    cases l <;> simp [S]
  rw [this]; exact h
open Builtin Builtin.Str in
theorem gives_find4 (x y : Str) (i : Int) (t u v v' : Tok) : Gives («str.find» ⟨[.str x t, .str y u, .int i v, .int x.length v'], []⟩) (.int (Txt.find3 x y i)) := by
  have e : fromIndex x.length (x.length : Int) = x.length := by unfold fromIndex; rw [if_neg (by omega)]; omega
  show Gives (match occurrences x y (fromIndex x.length i) (min x.length (fromIndex x.length (x.length : Int))) 1 with | k :: _ => retInt k | [] => (do rule "str.find.not-found"; retInt (-1))) _
  rw [e, Nat.min_self]
  unfold Txt.find3
  cases occurrences x y (fromIndex x.length i) x.length 1 with
  | nil => exact .rule (.of_eq rfl)
  | cons k _ => exact .of_eq rfl
theorem args_find4 (a b c d : Value) : argsOk "str.find" ⟨[a, b, c, d], []⟩ := by
  unfold argsOk; rw [signature?_of (id := "str.find") (n := ['d', 'n', 'i', 'f']) (o := ['r', 't', 's']) (by kernel_rfl) F.owner_str]; kernel_rfl
theorem find4 {x : Str} {i : Int} {v v' : Tok} (h : ∀ t' k, Q (.int (Txt.find3 x y i) t') { s with toks := k }) : wpAny (model prog' w) A (call (.builtin "str.find") [.str x t, .str y u, .int i v, .int x.length v']) Q E s :=
  call_gives F.slot_str_find (typeIs_str _ _ _) F.entry_str_find (args_find4 _ _ _ _) (gives_find4 x y i t u v v') (h _ _)
end
end Mine

end
section
namespace Mine
theorem news_tl {h₀ h : Heap} {L : Addr} {a : Addr × Obj} {l : List (Addr × Obj)} (N : News h₀ L h (a :: l)) : News h₀ L h l := fun q hq => N q (.tail _ hq)
section
variable {prog' : Program} {w : World} {A : Around} {E : Value → Shared → Prop} {Q : Flow → Shared → Prop} {s : Shared} {env : Env} {h₀ : Heap} {L : Addr}
def WlAt {σ : Type} (h₀ : Heap) (L : Addr) (s : Shared) (Led : σ → List (Addr × Obj)) (ps : σ → List (Str × Value)) (stored : List Str) (m₀ : Str → Option Value) (P : σ → Prop) (s₂ : Shared) : Prop :=
  ∃ (c' : σ) (h' : Heap) (tk : Nat) (m' : Str → Option Value) (news' : List (Addr × Obj)), s₂ = { s with heap := h', toks := tk } ∧ Fr h₀ L h' m' ∧ News h₀ L h' news' ∧ (∀ p ∈ Led c', p ∈ news') ∧ (∀ p ∈ ps c', m' p.1 = some p.2) ∧ (∀ z, (∀ p ∈ ps c', z ≠ p.1) → stored.contains z = false → m' z = m₀ z) ∧ P c'
def WlPost {σ : Type} (h₀ : Heap) (L : Addr) (s : Shared) (Led : σ → List (Addr × Obj)) (ps : σ → List (Str × Value)) (stored : List Str) (m₀ : Str → Option Value) (P Bk : σ → Prop) (μ : σ → Nat) (n : Nat) (f : Flow) (s₂ : Shared) : Prop :=
  match f with
  | .ret _ => False
  | .brk => WlAt h₀ L s Led ps stored m₀ Bk s₂
  | _ => WlAt h₀ L s Led ps stored m₀ (fun c => P c ∧ μ c < n) s₂
theorem wl_at {σ : Type} {Led : σ → List (Addr × Obj)} {ps : σ → List (Str × Value)} {stored : List Str} {m₀ m' : Str → Option Value} {P : σ → Prop} {h' : Heap} {tk : Nat} {news' : List (Addr × Obj)} (c' : σ)
    (F : Fr h₀ L h' m') (N : News h₀ L h' news') (hn : ∀ p ∈ Led c', p ∈ news') (hk : ∀ p ∈ ps c', m' p.1 = some p.2) (hr : ∀ z, (∀ p ∈ ps c', z ≠ p.1) → stored.contains z = false → m' z = m₀ z) (hp : P c') :
    WlAt h₀ L s Led ps stored m₀ P { s with heap := h', toks := tk } := ⟨c', h', tk, m', news', rfl, F, N, hn, hk, hr, hp⟩
theorem wl_while {σ : Type} {test : Expr} {body : List Stmt} {pos : Pos} {m₀ : Str → Option Value} (Led : σ → List (Addr × Obj)) (ps : σ → List (Str × Value)) (stored : List Str) (P Bk : σ → Prop) (μ : σ → Nat) (c₀ : σ)
    (F : Fr h₀ L s.heap m₀) (N : News h₀ L s.heap (Led c₀)) (hk : ∀ p ∈ ps c₀, m₀ p.1 = some p.2) (hp : P c₀)
    (turn : ∀ (c : σ) (u : Str → Option Value) h tk, P c → Fr h₀ L h (kstB (fun z => if stored.contains z then u z else m₀ z) (ps c)) → News h₀ L h (Led c) →
      wpAny (model prog' w) A (isTrue test env (eval test env)) (fun b s₂ =>
        if b = true then wpAny (model prog' w) A (execs body env) (WlPost h₀ L s Led ps stored m₀ P Bk μ (μ c)) (fun _ _ => False) s₂ else False) (fun _ _ => False) { s with heap := h, toks := tk })
    (after : ∀ (c : σ) (u : Str → Option Value) h tk, Bk c → Fr h₀ L h (kstB (fun z => if stored.contains z then u z else m₀ z) (ps c)) → News h₀ L h (Led c) → Q .next { s with heap := h, toks := tk }) :
    wpAny (model prog' w) A (exec (.While test body [] pos) env) Q E s := by
  refine wpAny_mono (Q := fun f s' => f = .next ∧ WlAt h₀ L s Led ps stored m₀ Bk s') (E := fun _ _ => False) ?_ (fun f s' hh => ?_) (fun _ _ hh => hh.elim)
  · refine While_inv2 (fun n m nx => ∃ c : σ, nx = Led c ∧ μ c = n ∧ (∀ p ∈ ps c, m p.1 = some p.2) ∧ (∀ z, (∀ p ∈ ps c, z ≠ p.1) → stored.contains z = false → m z = m₀ z) ∧ P c) F N ⟨c₀, rfl, rfl, hk, fun _ _ _ => rfl, hp⟩ ?_ PassesOwn.never
    rintro n m₁ nx h tk F₁ N₁ ⟨c, hnx, hsz, h1, h2, hp'⟩
    rw [hnx] at N₁
    rw [← hsz]
    refine wpAny_mono (turn c m₁ h tk hp' (ksw_fr h1 h2 F₁) N₁) (fun b s₂ p => ?_) fun _ _ x => x
    cases b with
    | false => simp at p
    | true =>
      simp only [if_true] at p ⊢
      refine wpAny_mono p (fun f s₃ q => ?_) fun _ _ x => x
      cases f with
      | ret v => exact q.elim
      | brk => exact ⟨rfl, q⟩
      | next =>
        obtain ⟨c', h', tk', m', news', rfl, F', N', hn, hk9, hr9, hp9, hm9⟩ := q
        exact ⟨h', tk', m', Led c', μ c', rfl, F', fun p hp => N' p (hn p hp), hm9, c', rfl, rfl, hk9, hr9, hp9⟩
      | cont =>
        obtain ⟨c', h', tk', m', news', rfl, F', N', hn, hk9, hr9, hp9, hm9⟩ := q
        exact ⟨h', tk', m', Led c', μ c', rfl, F', fun p hp => N' p (hn p hp), hm9, c', rfl, rfl, hk9, hr9, hp9⟩
  · obtain ⟨rfl, c', h', tk', m', news', rfl, F', N', hn, hk9, hr9, hb⟩ := hh
    exact after c' m' h' tk' hb (ksw_fr hk9 hr9 F') fun p hp => N' p (hn p hp)
end
end Mine

end
section
local macro_rules | `(tactic| walk_at "call builtin:str.find") => `(tactic| (k_here; (with_reducible refine Mine.find4 ?_); intro t' k'))
namespace Mine
section
variable {w : World} {A₀ : Around} {base h₀ : Heap} {outer : List Env} {L : Addr} {m mg mb : Str → Option Value} {loose : List Str} {mean : ExcName → Option Value} {s : Shared} {Q E : Value → Shared → Prop} {p : Program}
  {hdl : Option Value} {d u : Nat} {gs : Option (List Code)} {rest : List (Addr × Obj)} {ns : List (Str × NameKind)} {ig ic : Bool} {mo : List (Str × Const)} {gl bi : Addr} {cs : List (Str × Addr)} {qn : Str} {fo : Option Addr} {cdv : Value}
theorem nl_is : Str.ofString "\n" = ⟨#[10]⟩ := by decide +kernel
theorem readline_end {h' : Heap} {io iod : Addr} {x : Str} {v : Value} {pos : Nat} {q : Int} {kt : IoT} {t' k : Tok}
  (hR : ∀ h' v pos' t' k, x.cps.toList.drop pos' = dropLine (x.cps.toList.drop pos) → Fr h₀ L h' m → News h₀ L h' ((io, instObj 587 iod) :: (iod, ioD w.params kt x pos' t') :: rest) → Q v { s with heap := h', toks := k })
  (e2 : q = (q.toNat : Int)) (e1 : x.cps.toList.drop q.toNat = dropLine (x.cps.toList.drop pos)) (F : Fr h₀ L h' m)
  (N : News h₀ L h' ((io, instObj 587 iod) :: (iod, dictOf [ent w.params "_StringIO__newline" kt.a (.str (Str.ofString "\n") kt.b), ent w.params "_StringIO__buf" kt.c (.str x kt.d), ent w.params "_StringIO__pos" kt.e (.int q t')] 3) :: rest)) :
  Q v { s with heap := h', toks := k } := by
  rw [e2] at N
  exact hR h' v q.toNat t' k e1 F N
theorem getD_drop {x : Str} {pos j : Nat} (h : pos + j < x.length) : (x.cps.toList.drop pos)[j]? = some (x.cps.getD (pos + j) 0) := by
  have h' : pos + j < x.cps.toList.length := by simpa [Str.length] using h
  rw [List.getElem?_drop, List.getElem?_eq_getElem h']
  simp [Array.getD, Str.length] at h ⊢
  intro h2; omega
open Builtin Builtin.Str in
theorem find_drop {x : Str} {pos : Nat} (hp : pos ≤ x.length) :
    (Txt.find3 x (Str.ofString "\n") pos < 0 ∧ dropLine (x.cps.toList.drop pos) = []) ∨
    (0 ≤ Txt.find3 x (Str.ofString "\n") pos ∧ x.cps.toList.drop (Txt.find3 x (Str.ofString "\n") pos + 1).toNat = dropLine (x.cps.toList.drop pos)) := by
  rw [nl_is]
  have hf : fromIndex x.length (pos : Int) = pos := by unfold fromIndex; rw [if_neg (by omega)]; omega
  rcases StrLaws.find3_spec x 10 (pos : Int) with ⟨h, hn⟩ | ⟨k, h, h1, h2, h3, h4⟩
  · left
    refine ⟨by omega, dropLine_none _ fun j hj => ?_⟩
    rw [hf] at hn
    by_cases hl : pos + j < x.length
    · rw [getD_drop hl] at hj
      exact hn (pos + j) (by omega) hl (by simpa using hj)
    · rw [List.getElem?_drop, List.getElem?_eq_none (by simp [Str.length] at hl ⊢; omega)] at hj
      cases hj
  · right
    rw [hf] at h1 h4
    refine ⟨by omega, ?_⟩
    rw [h]
    rw [dropLine_at _ (k - pos) ?_ ?_]
    · rw [List.drop_drop]
      congr 1
      omega
    · rw [getD_drop (by omega), show pos + (k - pos) = k by omega, h3]
    · intro j hj he
      rw [getD_drop (by omega)] at he
      exact h4 (pos + j) (by omega) (by omega) (by simpa using he)
theorem readline {io iod : Addr} {x : Str} {pos : Nat} {kt : IoT} {t2 : Tok}
  (B : Below A₀ base outer h₀) (F : Fr h₀ L s.heap m) (X : (hd.heap_1 w.params).In h₀) (T : Top p loose mean mg mb h₀) (hdp : d < 980) (hun : u < 9800)
  (hio : @LT.lt Nat _ iod io) (hx : x.length ≤ 100000) (hrest : ∀ p ∈ rest, p.1 ≠ iod) (hp : pos ≤ x.length)
  (N : News h₀ L s.heap ((io, instObj 587 iod) :: (iod, ioD w.params kt x pos t2) :: rest))
  (hR : ∀ h' v pos' t' k, x.cps.toList.drop pos' = dropLine (x.cps.toList.drop pos) → Fr h₀ L h' m → News h₀ L h' ((io, instObj 587 iod) :: (iod, ioD w.params kt x pos' t') :: rest) → Q v { s with heap := h', toks := k })
  : wpAny (model prog w) (ar hdl d (fenv ns ig ic mo gl cs qn fo cdv bi L :: outer) gs u) (call (.ref 541) [.ref io]) Q E s := by
  have hfd := find_drop hp
  refine wpAny_call ?_
  k_enter
  k_steps
  · refine readline_end hR (q := (pos : Int)) (by omega) ?_ (by assumption) (by assumption)
    have e : x.cps.toList.drop pos = [] := List.drop_of_length_le (by simp [Str.length] at *; omega)
    rw [show ((pos : Int)).toNat = pos by omega, e]; rfl
  · refine readline_end hR (q := Txt.find3 x (Str.ofString "\n") pos + 1) (by omega) ?_ (by assumption) (by assumption)
    rcases hfd with hfd | hfd
    · omega
    · exact hfd.2
  · refine readline_end hR (q := (x.length : Int)) (by omega) ?_ (by assumption) (by assumption)
    rcases hfd with hfd | hfd
    · rw [hfd.2]
      exact List.drop_of_length_le (by simp [Str.length])
    · omega
end
end Mine

end
section
local macro_rules | `(tactic| walk_at "compareOp In str str") => `(tactic| (k_here; (with_reducible show wpAny _ _ (compareOp CmpOp.In (Value.str (Str.mk #[_]) _) _) _ _ _); (with_reducible refine' Mine.in_ch ?e ?_); (case e => first | with_reducible assumption | rfl); k_whole))
local macro_rules | `(tactic| walk_at "compareOp NotIn str str") => `(tactic| (k_here; (with_reducible show wpAny _ _ (compareOp CmpOp.NotIn (Value.str (Str.mk #[_]) _) _) _ _ _); (with_reducible refine' Mine.notin_ch ?e ?_); (case e => first | with_reducible assumption | rfl); k_whole))
local macro_rules | `(tactic| walk_at "compareOp Eq str str") => `(tactic| (k_here; (with_reducible show wpAny _ _ (compareOp CmpOp.Eq (Value.str (Str.mk #[_]) _) (Value.str (Str.ofString "\n") _)) _ _ _); (with_reducible refine' Mine.eq_nl ?e ?_); (case e => first | with_reducible assumption | rfl); k_whole))
local macro_rules | `(tactic| walk_at "truthy str") => `(tactic| (k_here; (with_reducible show wpAny _ _ (truthy (Value.str (Str.mk #[_]) _)) _ _ _); (with_reducible refine Mine.truthy_ch ?_); (try dsimp only)))
local macro_rules | `(tactic| walk_at "call ref") => `(tactic| (k_here; (with_reducible show wpAny _ _ (call (Value.ref 533) [Value.ref _, Value.int 1 _]) _ _ _); k_dflt (first | (refine' Mine.read_c ?k1 ?k2 ?k3 ?k4 ?k5 ?k6 ?k7 ?k8 ?k9 ?k10 ?k11 ?_; (case k11 => k_asm); (case k10 => assumption); (case k1 => k_asm); (case k2 => k_asm); (case k3 => k_asm); (case k4 => k_asm); (case k5 => k_room); (case k6 => k_units); (case k7 => k_asm); (case k8 => k_asm); (case k9 => k_all); k_whole) | (refine' Mine.read_e ?k1 ?k2 ?k3 ?k4 ?k5 ?k6 ?k7 ?k8 ?k9 ?k10 ?k11 ?_; (case k11 => k_asm); (case k10 => assumption); (case k1 => k_asm); (case k2 => k_asm); (case k3 => k_asm); (case k4 => k_asm); (case k5 => k_room); (case k6 => k_units); (case k7 => k_asm); (case k8 => k_asm); (case k9 => k_all); k_whole)); intro h' t' t2' k' F' N'; (try dsimp only); (try k_sweep)))
local macro_rules | `(tactic| ktr_unf) => `(tactic| (repeat' (first | (k_unfold; (try dsimp only)) | ((fail_if_success (with_reducible show wpAny _ _ (exec (Stmt.While _ _ _ _) _) _ _ _)); walk1))))
local macro_rules | `(tactic| walk_at "ite") => `(tactic| first | with_reducible refine Mine.ite_t ?_ | with_reducible refine Mine.ite_f ?_)
local macro_rules | `(tactic| walk_at "truthy str") => `(tactic| (k_here; (with_reducible show wpAny _ _ (truthy (Value.str (Mine.S _) _)) _ _ _); (with_reducible refine' Mine.truthy_S ?e ?l ?_); (case e => with_reducible assumption); (case l => omega); k_whole; (try dsimp only)))
local macro_rules | `(tactic| walk_at "compareOp Eq str str") => `(tactic| (k_here; (with_reducible show wpAny _ _ (compareOp CmpOp.Eq (Value.str (Mine.S _) _) (Value.str (Str.ofString "") _)) _ _ _); (with_reducible refine' Mine.eq_S ?e ?_); (case e => with_reducible assumption); k_whole))
local macro_rules | `(tactic| walk_at "inplaceOp Add str str") => `(tactic| (k_here; (with_reducible show wpAny _ _ (inplaceOp Operator.Add (Value.str (Mine.S _) _) (Value.str (Str.mk #[_]) _)) _ _ _); (with_reducible refine' Mine.add_S ?l ?_); (case l => omega); intro t' k'; (try dsimp only)))
local macro_rules | `(tactic| walk_at "getMethod ref") => `(tactic| (k_here; (with_reducible show wpAny _ _ (getMethod (Value.ref _) (Str.ofString "appendleft") _) _ _ _); k_dflt (refine' Mine.dq_method Mine.dq_slot_appendleft Mine.dq_type_appendleft ?N ?m ?_; (case N => k_asm); (case m => k_mem); k_whole)))
local macro_rules | `(tactic| walk_at "call builtin:collections.deque.appendleft") => `(tactic| (k_here; k_dflt (refine' Mine.dq_appendleft ?F ?N ?U ?sz ?_; (case F => k_asm); (case N => k_asm); (case U => k_upd); (case sz => assumption); k_whole); intro h' F' N'; (try dsimp only); (try k_sweep)))
local macro_rules | `(tactic| walk_at "call ref") => `(tactic| (k_here; (with_reducible show wpAny _ _ (call (Value.ref 541) [Value.ref _]) _ _ _); k_dflt (refine' Mine.readline ?k1 ?k2 ?k3 ?k4 ?k5 ?k6 ?k7 ?k8 ?k9 ?k10 ?k11 ?_; (case k11 => first | k_asm | exact Mine.news_tl (by k_asm)); (case k1 => k_asm); (case k2 => k_asm); (case k3 => k_asm); (case k4 => k_asm); (case k5 => k_room); (case k6 => k_units); (case k7 => k_asm); (case k8 => k_asm); (case k9 => k_all); (case k10 => assumption); k_whole); intro h' v' p' t' k' hd' F' N'; (try dsimp only); (try k_sweep)))
local macro_rules | `(tactic| walk_at "exec If") => `(tactic| ((try k_fold); with_reducible refine wpAny_If ?_))
local macro_rules | `(tactic| walk_at "execs nil") => `(tactic| (with_reducible refine wpAny_execs_nil ?_))
local macro_rules | `(tactic| walk_at "compareOp In str str") => `(tactic| (k_here; (with_reducible show wpAny _ _ (compareOp CmpOp.In (Value.str (Str.ofString _) _) (Value.str (Str.ofString _) _)) _ _ _); first | ((with_reducible refine' Mine.in_lit_f ?e ?_); (case e => decide +kernel)) | ((with_reducible refine' Mine.in_lit_t ?e ?_); (case e => decide +kernel))))
local macro_rules | `(tactic| walk_at "getAttr ref") => `(tactic| (k_here; k_dflt (refine' get_own ?k1 ?k2 ?k3 ?k4 ?k5 ?k6 ?k7 ?k8 ?k9 ?_; (case k1 => k_asm); (case k2 => k_asm); (case k3 => k_inst); (case k4 => k_is); (case k5 => k_is); (case k6 => k_is); (case k7 => k_is); (case k8 => k_get); (case k9 => k_handed); k_whole)))
local macro_rules | `(tactic| walk_at "callWith ref") => `(tactic| (k_here; first
  | ((with_reducible show wpAny _ _ (callWith _ _ _ (backTo _ (starEach [] _)) []) _ _ _); row_timed "R1c" (refine' callWith_K0 ?k1 ?k2 ?_); row_timed "R1k1" (case k1 => exact Frag.In.keeps (by with_reducible assumption) (Fr.keep (by assumption))); row_timed "R1k2" (case k2 => k_is); k_whole; (try dsimp only [List.nil_append, List.cons_append, List.append_nil]))
  | (row_timed "R2c" (refine' callWith_K ?k1 ?k2 ?_); row_timed "R2k1" (case k1 => k_asm); row_timed "R2k2" (case k2 => k_is); k_whole)))
local macro_rules | `(tactic| walk_at "execs cons") => `(tactic| ((try dsimp only); with_reducible refine wpAny_execs_cons ?_))
namespace Mine
section
variable {w : World} {A₀ : Around} {base h₀ : Heap} {outer : List Env} {L : Addr} {m mg mb : Str → Option Value} {loose : List Str} {mean : ExcName → Option Value} {s : Shared} {Q E : Value → Shared → Prop} {p : Program}
  {hdl : Option Value} {d u : Nat} {gs : Option (List Code)} {rest : List (Addr × Obj)} {ns : List (Str × NameKind)} {ig ic : Bool} {mo : List (Str × Const)} {gl bi : Addr} {cs : List (Str × Addr)} {qn : Str} {fo : Option Addr} {cdv : Value}
def TkInv (x : Str) (b : Bool) (W : Nat → Bool) (tgt : RtR) (pbs : List Value) (c : LS) : Prop :=
  ∃ st l rem, SV st c.sv ∧ c.tok = S l ∧ x.cps.toList.drop c.pos = rem ∧ l.length + rem.length ≤ 100000 ∧ (st = .white → l = []) ∧ (st = .word → l.isEmpty = false) ∧ (st = .fin → rem = []) ∧ (∀ c ∈ rem, Plain c) ∧ rt b W st l rem c.ln = tgt ∧ c.pbs = pbs
def TkEnd (x : Str) (tgt : RtR) (pbs : List Value) (c : LS) : Prop :=
  ∃ l, c.tok = S l ∧ l.length ≤ 100000 ∧ SV tgt.st c.sv ∧ x.cps.toList.drop c.pos = tgt.rem ∧ c.ln = tgt.ln ∧ l = tgt.tok ∧ OV tgt.over c.pbs pbs
theorem meas {x : Str} {p q : Nat} {r : List Nat} (h : x.cps.toList.drop p = dropLine r) (hd : x.cps.toList.drop (q + 1) = r) (hq : q + 1 ≤ x.length) : x.length - p < x.length - q := by
  have h1 := congrArg List.length h
  have h2 := congrArg List.length hd
  have h3 := dropLine_le r
  simp [Str.length] at h1 h2 hq ⊢
  omega
theorem rtok {lx dx io iod pb fs : Addr} {x wc tkx : Str} {pos : Nat} {kt : IoT} {lt1 : LxT} {b : Bool} {ev f sv : Value} {ln : Int} {t2 tl tt : Tok} {pbs : List Value} {pn : Int} {st : LSt} {rem : List Nat}
  (B : Below A₀ base outer h₀) (F : Fr h₀ L s.heap m) (X : (hd.heap_1 w.params).In h₀) (T : Top p loose mean mg mb h₀) (hdp : d < 900) (hun : u < 9000)
  (hx : x.length ≤ 100000) (h1 : @LT.lt Nat _ dx lx) (h2 : @LT.lt Nat _ lx iod) (h3 : @LT.lt Nat _ iod io) (h4 : @LT.lt Nat _ io pb) (hr1 : ∀ p ∈ rest, p.1 ≠ iod) (hr2 : ∀ p ∈ rest, p.1 ≠ dx) (hr3 : ∀ p ∈ rest, p.1 ≠ pb)
  (hsv : SV st sv) (hrem : x.cps.toList.drop pos = rem) (hst : st ≠ .word) (hfin : st = .fin → rem = []) (hok : ∀ c ∈ rem, Plain c) (hpb : pbs.length ≤ 900000) (htk : tkx = S [])
  (N : News h₀ L s.heap ((io, instObj 587 iod) :: (iod, ioD w.params kt x pos t2) :: (pb, dqO pbs pn) :: (lx, instObj 722 dx) :: (dx, lexD w.params lt1 b false ev (Str.ofString "#") wc pb fs io f sv ln tl tkx tt) :: rest))
  (hQ : ∀ h' v sv' tl' tk' tt' pos' t2' pbs' pn' k, Fr h₀ L h' m →
    News h₀ L h' ((io, instObj 587 iod) :: (iod, ioD w.params kt x pos' t2') :: (pb, dqO pbs' pn') :: (lx, instObj 722 dx) :: (dx, lexD w.params lt1 b false ev (Str.ofString "#") wc pb fs io f sv' (rt b (fun c => wc.cps.toList.contains c) st [] rem ln).ln tl' tk' tt') :: rest) →
    tk' = S [] → SV (rt b (fun c => wc.cps.toList.contains c) st [] rem ln).st sv' → x.cps.toList.drop pos' = (rt b (fun c => wc.cps.toList.contains c) st [] rem ln).rem →
    RV b (rt b (fun c => wc.cps.toList.contains c) st [] rem ln).tok v → OV (rt b (fun c => wc.cps.toList.contains c) st [] rem ln).over pbs' pbs → Q v { s with heap := h', toks := k })
  : wpAny (model prog w) (ar hdl d (fenv ns ig ic mo gl cs qn fo cdv bi L :: outer) gs u) (call (.ref 690) [.ref lx]) Q E s := by
  have hremlen : rem.length ≤ 100000 := by rw [← hrem]; simp [Str.length] at hx ⊢; omega
  generalize htgt : rt b (fun c => wc.cps.toList.contains c) st [] rem ln = tgt at hQ
  refine wpAny_call ?_
  k_enter
  ktr_unf
  rename Fr _ _ _ _ => F1
  rename News _ _ _ _ => N1
  refine wl_while (σ := LS) (fun c => (io, instObj 587 iod) :: (iod, ioD w.params kt x c.pos c.tp) :: (pb, dqO c.pbs c.pn) :: (lx, instObj 722 dx) :: (dx, lexD w.params lt1 b false ev (Str.ofString "#") wc pb fs io f c.sv c.ln c.tl c.tok c.tt) :: rest) (fun _ => []) [Str.ofString "nextchar"]
    (TkInv x b (fun c => wc.cps.toList.contains c) tgt pbs) (TkEnd x tgt pbs) (fun c => x.length - c.pos) ⟨sv, ln, tl, tkx, tt, pos, t2, pbs, pn⟩ F1 N1 ?_ ?_ ?_ ?_
  · intro p hp; cases hp
  · exact ⟨st, [], rem, hsv, htk, hrem, by simpa using hremlen, fun _ => rfl, fun h => absurd h hst, hfin, hok, htgt, rfl⟩
  · clear N1 F1 htgt hfin hok hrem hremlen hsv hQ hst htk
    rintro ⟨sv, ln, tl, tok, tt, pos', tp, pbs', pn'⟩ u h tk ⟨st, l, rem, h5, h6, h7, h8, h9, h10, h11, h12, h13, h14⟩ F2 N2
    dsimp only at h5 h6 h7 h8 h9 h10 h11 h12 h13 h14 N2
    subst h6 h14
    have hpun : ∀ c, (Str.ofString "").cps.toList.contains c = false := fun c => by rw [S_nil]; rfl
    cases st with
    | fin =>
      have hr0 := h11 rfl
      subst hr0
      have hc : x.cps.toList.drop pos' = [] := h7
      subst h5
      rw [rt] at h13; subst h13
      k_steps
      all_goals ((try dsimp only [WlPost]); refine wl_at (σ := LS) ⟨_, _, _, _, _, _, _, _, _⟩ (by assumption) (by assumption) (fun p hp => hp) (fun p hp => nomatch hp) ?hr ?hp; (case hr => (intro z _ h3; have h4 : ¬ z = Str.ofString "nextchar" := (by intro e; subst e; simp at h3); simp only [kstB, h3, h4, if_false, Bool.false_eq_true])); (case hp => (exact ⟨[], S_nil, by simp, rfl, hc, rfl, rfl, rfl⟩)))
    | white =>
      obtain ⟨ts, rfl⟩ := h5
      have hl0 := h9 rfl
      subst hl0
      have hle : ([] : List Nat).isEmpty = true := rfl
      cases rem with
      | nil =>
        rw [rt] at h13; subst h13
        k_steps
        all_goals ((try dsimp only [WlPost]); refine wl_at (σ := LS) ⟨_, _, _, _, _, _, _, _, _⟩ (by assumption) (by assumption) (fun p hp => hp) (fun p hp => nomatch hp) ?hr ?hp; (case hr => (intro z _ h3; have h4 : ¬ z = Str.ofString "nextchar" := (by intro e; subst e; simp at h3); simp only [kstB, h3, h4, if_false, Bool.false_eq_true])); (case hp => (exact ⟨[], rfl, by simp, rfl, h7, rfl, rfl, rfl⟩)))
      | cons c r =>
        obtain ⟨hd, hpl⟩ := drop_next h7
        have hpl : pos' + 1 ≤ x.length := by simpa [Str.length] using hpl
        have hqs := (h12 c (.head _)).1
        have hes := (h12 c (.head _)).2
        have hpu := hpun c
        by_cases hc10 : (c == 10) = true
        · have hws : (Str.ofString " \t\x0d\n").cps.toList.contains c = true := by rw [beq_iff_eq.mp hc10]; decide +kernel
          rw [rt] at h13; simp only [isWs, hws, hc10, if_true] at h13
          k_steps
          all_goals ((try dsimp only [WlPost]); refine wl_at (σ := LS) ⟨_, _, _, _, _, _, _, _, _⟩ (by assumption) (by assumption) (fun p hp => hp) (fun p hp => nomatch hp) ?hr ?hp; (case hr => (intro z _ h3; have h4 : ¬ z = Str.ofString "nextchar" := (by intro e; subst e; simp at h3); simp only [kstB, h3, h4, if_false, Bool.false_eq_true])); (case hp => (exact ⟨⟨.white, [], r, ⟨_, rfl⟩, rfl, hd, by simp at h8 ⊢; omega, fun _ => rfl, fun h => (by cases h), fun h => (by cases h), fun a ha => h12 a (.tail _ ha), h13, rfl⟩, by dsimp only; omega⟩)))
        · have hc10 : (c == 10) = false := by simpa using hc10
          (repeat' (first | (k_unfold; (try dsimp only)) | ((fail_if_success (with_reducible show wpAny _ _ (compareOp CmpOp.In (Value.str (Str.mk #[_]) _) _) _ _ _)); walk1)))
          cases hws : (Str.ofString " \t\x0d\n").cps.toList.contains c with
          | true =>
            rw [rt] at h13; simp only [isWs, hws, hc10, if_true, if_false, Bool.false_eq_true] at h13
            k_steps
            all_goals ((try dsimp only [WlPost]); refine wl_at (σ := LS) ⟨_, _, _, _, _, _, _, _, _⟩ (by assumption) (by assumption) (fun p hp => hp) (fun p hp => nomatch hp) ?hr ?hp; (case hr => (intro z _ h3; have h4 : ¬ z = Str.ofString "nextchar" := (by intro e; subst e; simp at h3); simp only [kstB, h3, h4, if_false, Bool.false_eq_true])); (case hp => (exact ⟨⟨.white, [], r, ⟨_, rfl⟩, rfl, hd, by simp at h8 ⊢; omega, fun _ => rfl, fun h => (by cases h), fun h => (by cases h), fun a ha => h12 a (.tail _ ha), h13, rfl⟩, by dsimp only; omega⟩)))
          | false =>
            cases hcm : (Str.ofString "#").cps.toList.contains c with
            | true =>
              rw [rt] at h13; simp only [isWs, hws, isCm, hcm, if_true, if_false, Bool.false_eq_true] at h13
              k_steps
              all_goals ((try dsimp only [WlPost]); refine wl_at (σ := LS) ⟨_, _, _, _, _, _, _, _, _⟩ (by assumption) (by assumption) (fun p hp => hp) (fun p hp => nomatch hp) ?hr ?hp; (case hr => (intro z _ h3; have h4 : ¬ z = Str.ofString "nextchar" := (by intro e; subst e; simp at h3); simp only [kstB, h3, h4, if_false, Bool.false_eq_true])); (case hp => (rename _ = dropLine _ => hdl; rw [hd] at hdl; exact ⟨⟨.white, [], dropLine r, ⟨_, rfl⟩, rfl, hdl, by have := dropLine_le r; simp at h8 ⊢; omega, fun _ => rfl, fun h => (by cases h), fun h => (by cases h), fun a ha => h12 a (.tail _ (dropLine_sub _ _ ha)), h13, rfl⟩, meas hdl hd hpl⟩)))
            | false =>
              cases hwc : wc.cps.toList.contains c with
              | true =>
                rw [rt] at h13; simp only [isWs, hws, isCm, hcm, hwc, if_true, if_false, Bool.false_eq_true] at h13
                k_steps
                all_goals ((try dsimp only [WlPost]); refine wl_at (σ := LS) ⟨_, _, _, _, _, _, _, _, _⟩ (by assumption) (by assumption) (fun p hp => hp) (fun p hp => nomatch hp) ?hr ?hp; (case hr => (intro z _ h3; have h4 : ¬ z = Str.ofString "nextchar" := (by intro e; subst e; simp at h3); simp only [kstB, h3, h4, if_false, Bool.false_eq_true])); (case hp => (exact ⟨⟨.word, [c], r, ⟨_, rfl⟩, rfl, hd, by simp at h8 ⊢; omega, fun h => (by cases h), fun _ => rfl, fun h => (by cases h), fun a ha => h12 a (.tail _ ha), h13, rfl⟩, by dsimp only; omega⟩)))
              | false =>
                rw [rt] at h13; simp only [isWs, hws, isCm, hcm, hwc, if_true, if_false, Bool.false_eq_true] at h13; subst h13
                k_steps
                all_goals ((try dsimp only [WlPost]); refine wl_at (σ := LS) ⟨_, _, _, _, _, _, _, _, _⟩ (by assumption) (by assumption) (fun p hp => hp) (fun p hp => nomatch hp) ?hr ?hp; (case hr => (intro z _ h3; have h4 : ¬ z = Str.ofString "nextchar" := (by intro e; subst e; simp at h3); simp only [kstB, h3, h4, if_false, Bool.false_eq_true])); (case hp => (exact ⟨[c], rfl, by simp, ⟨_, rfl⟩, hd, rfl, rfl, rfl⟩)))
    | word =>
      obtain ⟨ts, rfl⟩ := h5
      have hle := h10 rfl
      cases rem with
      | nil =>
        rw [rt] at h13; subst h13
        k_steps
        all_goals ((try dsimp only [WlPost]); refine wl_at (σ := LS) ⟨_, _, _, _, _, _, _, _, _⟩ (by assumption) (by assumption) (fun p hp => List.Mem.tail _ hp) (fun p hp => nomatch hp) ?hr ?hp; (case hr => (intro z _ h3; have h4 : ¬ z = Str.ofString "nextchar" := (by intro e; subst e; simp at h3); simp only [kstB, h3, h4, if_false, Bool.false_eq_true])); (case hp => (exact ⟨l, rfl, by omega, rfl, h7, rfl, rfl, rfl⟩)))
      | cons c r =>
        obtain ⟨hd, hpl⟩ := drop_next h7
        have hpl : pos' + 1 ≤ x.length := by simpa [Str.length] using hpl
        have hqs := (h12 c (.head _)).1
        have hes := (h12 c (.head _)).2
        have hpu := hpun c
        by_cases hc10 : (c == 10) = true
        · have hws : (Str.ofString " \t\x0d\n").cps.toList.contains c = true := by rw [beq_iff_eq.mp hc10]; decide +kernel
          rw [rt] at h13; simp only [isWs, hws, hc10, if_true] at h13; subst h13
          k_steps
          all_goals ((try dsimp only [WlPost]); refine wl_at (σ := LS) ⟨_, _, _, _, _, _, _, _, _⟩ (by assumption) (by assumption) (fun p hp => List.Mem.tail _ hp) (fun p hp => nomatch hp) ?hr ?hp; (case hr => (intro z _ h3; have h4 : ¬ z = Str.ofString "nextchar" := (by intro e; subst e; simp at h3); simp only [kstB, h3, h4, if_false, Bool.false_eq_true])); (case hp => (exact ⟨l, rfl, by omega, ⟨_, rfl⟩, hd, rfl, rfl, rfl⟩)))
        · have hc10 : (c == 10) = false := by simpa using hc10
          (repeat' (first | (k_unfold; (try dsimp only)) | ((fail_if_success (with_reducible show wpAny _ _ (compareOp CmpOp.In (Value.str (Str.mk #[_]) _) _) _ _ _)); walk1)))
          cases hws : (Str.ofString " \t\x0d\n").cps.toList.contains c with
          | true =>
            rw [rt] at h13; simp only [isWs, hws, hc10, if_true, if_false, Bool.false_eq_true] at h13; subst h13
            k_steps
            all_goals ((try dsimp only [WlPost]); refine wl_at (σ := LS) ⟨_, _, _, _, _, _, _, _, _⟩ (by assumption) (by assumption) (fun p hp => List.Mem.tail _ hp) (fun p hp => nomatch hp) ?hr ?hp; (case hr => (intro z _ h3; have h4 : ¬ z = Str.ofString "nextchar" := (by intro e; subst e; simp at h3); simp only [kstB, h3, h4, if_false, Bool.false_eq_true])); (case hp => (exact ⟨l, rfl, by omega, ⟨_, rfl⟩, hd, rfl, rfl, rfl⟩)))
          | false =>
            cases hcm : (Str.ofString "#").cps.toList.contains c with
            | true =>
              rw [rt] at h13; simp only [isWs, hws, isCm, hcm, if_true, if_false, Bool.false_eq_true] at h13
              cases b with
              | true =>
                simp only [if_true] at h13; subst h13
                k_steps
                all_goals ((try dsimp only [WlPost]); refine wl_at (σ := LS) ⟨_, _, _, _, _, _, _, _, _⟩ (by assumption) (by assumption) (fun p hp => hp) (fun p hp => nomatch hp) ?hr ?hp; (case hr => (intro z _ h3; have h4 : ¬ z = Str.ofString "nextchar" := (by intro e; subst e; simp at h3); simp only [kstB, h3, h4, if_false, Bool.false_eq_true])); (case hp => (rename _ = dropLine _ => hdl; rw [hd] at hdl; exact ⟨l, rfl, by omega, ⟨_, rfl⟩, hdl, rfl, rfl, rfl⟩)))
              | false =>
                simp only [if_false, Bool.false_eq_true] at h13
                k_steps
                all_goals ((try dsimp only [WlPost]); refine wl_at (σ := LS) ⟨_, _, _, _, _, _, _, _, _⟩ (by assumption) (by assumption) (fun p hp => hp) (fun p hp => nomatch hp) ?hr ?hp; (case hr => (intro z _ h3; have h4 : ¬ z = Str.ofString "nextchar" := (by intro e; subst e; simp at h3); simp only [kstB, h3, h4, if_false, Bool.false_eq_true])); (case hp => (rename _ = dropLine _ => hdl; rw [hd] at hdl; exact ⟨⟨.word, l, dropLine r, ⟨_, rfl⟩, rfl, hdl, by have := dropLine_le r; simp at h8 ⊢; omega, fun h => (by cases h), fun _ => hle, fun h => (by cases h), fun a ha => h12 a (.tail _ (dropLine_sub _ _ ha)), h13, rfl⟩, meas hdl hd hpl⟩)))
            | false =>
              cases hwc : wc.cps.toList.contains c with
              | true =>
                rw [rt] at h13; simp only [isWs, hws, isCm, hcm, hwc, if_true, if_false, Bool.false_eq_true] at h13
                k_steps
                all_goals ((try dsimp only [WlPost]); refine wl_at (σ := LS) ⟨_, _, _, _, _, _, _, _, _⟩ (by assumption) (by assumption) (fun p hp => List.Mem.tail _ hp) (fun p hp => nomatch hp) ?hr ?hp; (case hr => (intro z _ h3; have h4 : ¬ z = Str.ofString "nextchar" := (by intro e; subst e; simp at h3); simp only [kstB, h3, h4, if_false, Bool.false_eq_true])); (case hp => (exact ⟨⟨.word, l ++ [c], r, ⟨_, rfl⟩, rfl, hd, by simp at h8 ⊢; omega, fun h => (by cases h), fun _ => (by simp), fun h => (by cases h), fun a ha => h12 a (.tail _ ha), h13, rfl⟩, by dsimp only; omega⟩)))
              | false =>
                rw [rt] at h13; simp only [isWs, hws, isCm, hcm, hwc, if_true, if_false, Bool.false_eq_true] at h13; subst h13
                k_steps
                all_goals ((try dsimp only [WlPost]); refine wl_at (σ := LS) ⟨_, _, _, _, _, _, _, _, _⟩ (by assumption) (by assumption) (fun p hp => List.Mem.tail _ hp) (fun p hp => nomatch hp) ?hr ?hp; (case hr => (intro z _ h3; have h4 : ¬ z = Str.ofString "nextchar" := (by intro e; subst e; simp at h3); simp only [kstB, h3, h4, if_false, Bool.false_eq_true])); (case hp => (exact ⟨l, rfl, by omega, ⟨_, rfl⟩, hd, rfl, rfl, ⟨_, rfl⟩⟩)))
  · rintro ⟨sv', ln', tl', tok, tt', pos', tp', pbs', pn'⟩ u h tk ⟨l, h6, h7, h8, h9, h10, h11, h12⟩ F2 N2
    dsimp only at h6 h8 h9 h10 h12 N2
    subst h6 h11 h10
    cases hle : tgt.tok.isEmpty
    all_goals k_steps
    all_goals (refine hQ _ _ _ _ _ _ _ _ _ _ _ (by assumption) (by assumption) S_nil h8 h9 ?_ h12)
    all_goals (first
      | (rename b = true => hb; subst hb; first | exact (by unfold RV; rw [hle]; exact rfl) | exact (by unfold RV; rw [hle]; exact ⟨_, rfl⟩))
      | (rename b = false => hb; subst hb; exact (by unfold RV; exact ⟨_, rfl⟩))
      | (rename ¬ b = true => hb; rw [Bool.not_eq_true] at hb; subst hb; exact (by unfold RV; exact ⟨_, rfl⟩)))
end
end Mine

end
section
namespace Mine
def GV (ev : Value) (tok : List Nat) (v : Value) : Prop := if tok.isEmpty then v = ev else ∃ t, v = .str (S tok) t
theorem eq_end {w : World} {A : Around} {E : Value → Shared → Prop} {s : Shared} {Q : Value → Shared → Prop} {b : Bool} {tok : List Nat} {v ev : Value} (hR : RV b tok v) (hE : EV b ev) (h : Q (.bool tok.isEmpty) s) : wpAny (model prog w) A (compareOp .Eq v ev) Q E s := by
  unfold RV at hR
  unfold EV at hE
  cases b with
  | true =>
    simp only [if_true] at hE
    subst hE
    cases ht : tok.isEmpty with
    | true =>
      rw [ht] at hR h
      simp only [Bool.and_true, if_true] at hR
      subst hR
      exact PySem.EqNone.eq_none_none h
    | false =>
      rw [ht] at hR h
      simp only [Bool.and_false, Bool.false_eq_true, if_false] at hR
      obtain ⟨t, rfl⟩ := hR
      exact PySem.EqNone.eq_str_none h
  | false =>
    simp only [Bool.false_eq_true, if_false, Bool.false_and] at hE hR
    obtain ⟨t, rfl⟩ := hR
    obtain ⟨t, rfl⟩ := hE
    exact eq_S rfl h
theorem while_once {w : World} {A : Around} {E : Value → Shared → Prop} {Q : Flow → Shared → Prop} {s : Shared} {env : Env} {h₀ : Heap} {L : Addr} {test : Expr} {body : List Stmt} {pos : Pos} {m : Str → Option Value} {news : List (Addr × Obj)}
    (F : Fr h₀ L s.heap m) (N : News h₀ L s.heap news)
    (turn : ∀ h₁ tk₁, Fr h₀ L h₁ m → News h₀ L h₁ news →
      wpAny (model prog w) A (isTrue test env (eval test env)) (fun b s₂ =>
        if b = true then wpAny (model prog w) A (execs body env) (WhileStep2 h₀ L s (fun n m₁ nx => n = 0 ∧ m₁ = m ∧ nx = news) Q 0) E s₂ else Q .next s₂) E { s with heap := h₁, toks := tk₁ })
    (hE : PassesOwn (model prog w) A env E := by passes_own) :
    wpAny (model prog w) A (exec (.While test body [] pos) env) Q E s :=
  While_inv2 (n₀ := 0) (fun n m₁ nx => n = 0 ∧ m₁ = m ∧ nx = news) F N ⟨rfl, rfl, rfl⟩ (fun n m₁ nx h tk F₁ N₁ e => by
    obtain ⟨rfl, rfl, rfl⟩ := e
    exact turn h tk F₁ N₁) hE
theorem ev_handed {b : Bool} {ev : Value} (h : EV b ev) : handedIn ev = true := by
  unfold EV at h
  cases b with
  | true => simp only [if_true] at h; subst h; rfl
  | false => simp only [Bool.false_eq_true, if_false] at h; obtain ⟨t, rfl⟩ := h; rfl
theorem rv_gv {b : Bool} {tok : List Nat} {v ev : Value} (hR : RV b tok v) (he : tok.isEmpty = false) : GV ev tok v := by
  unfold RV at hR
  unfold GV
  rw [he] at hR ⊢
  simpa using hR
end Mine
local macro_rules | `(tactic| k_handed) => `(tactic| with_reducible assumption)
local macro_rules | `(tactic| walk_at "getAttr ref") => `(tactic| (k_here; k_dflt (refine' get_own ?k1 ?k2 ?k3 ?k4 ?k5 ?k6 ?k7 ?k8 ?k9 ?_; (case k1 => k_asm); (case k2 => k_asm); (case k3 => k_inst); (case k4 => k_is); (case k5 => k_is); (case k6 => k_is); (case k7 => k_is); (case k8 => k_get); (case k9 => k_handed); k_whole)))
local macro_rules | `(tactic| walk_at "callWith ref") => `(tactic| (k_here; first
  | ((with_reducible show wpAny _ _ (callWith _ _ _ (backTo _ (starEach [] _)) []) _ _ _); row_timed "R1c" (refine' callWith_K0 ?k1 ?k2 ?_); row_timed "R1k1" (case k1 => exact Frag.In.keeps (by with_reducible assumption) (Fr.keep (by assumption))); row_timed "R1k2" (case k2 => k_is); k_whole; (try dsimp only [List.nil_append, List.cons_append, List.append_nil]))
  | (row_timed "R2c" (refine' callWith_K ?k1 ?k2 ?_); row_timed "R2k1" (case k1 => k_asm); row_timed "R2k2" (case k2 => k_is); k_whole)))
local macro_rules | `(tactic| walk_at "execs nil") => `(tactic| (with_reducible refine wpAny_execs_nil ?_))
local macro_rules | `(tactic| walk_at "exec If") => `(tactic| ((try k_fold); with_reducible refine wpAny_If ?_))
local macro_rules | `(tactic| walk_at "ite") => `(tactic| first | with_reducible refine Mine.ite_t ?_ | with_reducible refine Mine.ite_f ?_)
local macro_rules | `(tactic| walk_at "execs cons") => `(tactic| ((try dsimp only); with_reducible refine wpAny_execs_cons ?_))
local macro_rules | `(tactic| walk_at "getMethod ref") => `(tactic| (k_here; (with_reducible show wpAny _ _ (getMethod (Value.ref _) (Str.ofString "appendleft") _) _ _ _); k_dflt (refine' Mine.dq_method Mine.dq_slot_appendleft Mine.dq_type_appendleft ?N ?m ?_; (case N => k_asm); (case m => k_mem); k_whole)))
local macro_rules | `(tactic| walk_at "getMethod ref") => `(tactic| (k_here; (with_reducible show wpAny _ _ (getMethod (Value.ref _) (Str.ofString "popleft") _) _ _ _); k_dflt (refine' Mine.dq_method Mine.dq_slot_popleft Mine.dq_type_popleft ?N ?m ?_; (case N => k_asm); (case m => k_mem); k_whole)))
local macro_rules | `(tactic| walk_at "call builtin:collections.deque.appendleft") => `(tactic| (k_here; k_dflt (refine' Mine.dq_appendleft ?F ?N ?U ?sz ?_; (case F => k_asm); (case N => k_asm); (case U => k_upd); (case sz => assumption); k_whole); intro h' F' N'; (try dsimp only); (try k_sweep)))
local macro_rules | `(tactic| walk_at "call builtin:collections.deque.popleft") => `(tactic| (k_here; k_dflt (refine' Mine.dq_popleft ?F ?N ?U ?sz ?_; (case F => k_asm); (case N => k_asm); (case U => k_upd); (case sz => assumption); k_whole); intro h' F' N'; (try dsimp only); (try k_sweep)))
local macro_rules | `(tactic| walk_at "truthy ref") => `(tactic| (k_here; k_dflt (refine' Mine.dq_truthy ?N ?m ?sz ?_; (case N => k_asm); (case m => k_mem); (case sz => first | assumption | (simp only [List.length_cons, List.length_nil]; omega)); k_whole); (try dsimp only [List.isEmpty_cons, List.isEmpty_nil, Bool.not_true, Bool.not_false])))
namespace Mine
section
variable {w : World} {A₀ : Around} {base h₀ : Heap} {outer : List Env} {L : Addr} {m mg mb : Str → Option Value} {loose : List Str} {mean : ExcName → Option Value} {s : Shared} {Q E : Value → Shared → Prop} {p : Program}
  {hdl : Option Value} {d u : Nat} {gs : Option (List Code)} {rest : List (Addr × Obj)} {ns : List (Str × NameKind)} {ig ic : Bool} {mo : List (Str × Const)} {gl bi : Addr} {cs : List (Str × Addr)} {qn : Str} {fo : Option Addr} {cdv : Value}
theorem push_tok {lx dx io pb fs : Addr} {wc cm tkx : Str} {lt1 : LxT} {b sp : Bool} {ev f sv tv : Value} {ln : Int} {tl tt : Tok} {pbs : List Value} {pn : Int}
  (B : Below A₀ base outer h₀) (F : Fr h₀ L s.heap m) (X : (hd.heap_1 w.params).In h₀) (T : Top p loose mean mg mb h₀) (hdp : d < 900) (hun : u < 9000)
  (h1 : @LT.lt Nat _ dx lx) (h5 : @LT.lt Nat _ lx pb) (hr3 : ∀ p ∈ rest, p.1 ≠ pb) (hpb : pbs.length ≤ 900000)
  (N : News h₀ L s.heap ((pb, dqO pbs pn) :: (lx, instObj 722 dx) :: (dx, lexD w.params lt1 b sp ev cm wc pb fs io f sv ln tl tkx tt) :: rest))
  (hQ : ∀ h' k, Fr h₀ L h' m → News h₀ L h' ((pb, dqO (tv :: pbs) (pn + 1)) :: (lx, instObj 722 dx) :: (dx, lexD w.params lt1 b sp ev cm wc pb fs io f sv ln tl tkx tt) :: rest) → Q .none { s with heap := h', toks := k })
  : wpAny (model prog w) (ar hdl d (fenv ns ig ic mo gl cs qn fo cdv bi L :: outer) gs u) (call (.ref 661) [.ref lx, tv]) Q E s := by
  refine wpAny_call ?_
  k_enter
  k_steps
  exact hQ _ _ (by assumption) (by assumption)
theorem get_tok1 {lx dx io pb fs : Addr} {wc cm tkx : Str} {lt1 : LxT} {b sp : Bool} {ev f sv tv : Value} {ln : Int} {tl tt : Tok} {pbs : List Value} {pn : Int}
  (B : Below A₀ base outer h₀) (F : Fr h₀ L s.heap m) (X : (hd.heap_1 w.params).In h₀) (T : Top p loose mean mg mb h₀) (hdp : d < 900) (hun : u < 9000)
  (h1 : @LT.lt Nat _ dx lx) (h5 : @LT.lt Nat _ lx pb) (hr3 : ∀ p ∈ rest, p.1 ≠ pb) (hpb : pbs.length < 900000)
  (N : News h₀ L s.heap ((pb, dqO (tv :: pbs) pn) :: (lx, instObj 722 dx) :: (dx, lexD w.params lt1 b sp ev cm wc pb fs io f sv ln tl tkx tt) :: rest))
  (hQ : ∀ h' k, Fr h₀ L h' m → News h₀ L h' ((pb, dqO pbs (pn + 1)) :: (lx, instObj 722 dx) :: (dx, lexD w.params lt1 b sp ev cm wc pb fs io f sv ln tl tkx tt) :: rest) → Q tv { s with heap := h', toks := k })
  : wpAny (model prog w) (ar hdl d (fenv ns ig ic mo gl cs qn fo cdv bi L :: outer) gs u) (call (.ref 683) [.ref lx]) Q E s := by
  have hpb' : pbs.length ≤ 900000 := by omega
  refine wpAny_call ?_
  k_enter
  k_steps
  exact hQ _ _ (by assumption) (by assumption)
end
end Mine
namespace Mine
section
variable {w : World} {A₀ : Around} {base h₀ : Heap} {outer : List Env} {L : Addr} {m mg mb : Str → Option Value} {loose : List Str} {mean : ExcName → Option Value} {s : Shared} {Q E : Value → Shared → Prop} {p : Program}
  {hdl : Option Value} {d u : Nat} {gs : Option (List Code)} {rest : List (Addr × Obj)} {ns : List (Str × NameKind)} {ig ic : Bool} {mo : List (Str × Const)} {gl bi : Addr} {cs : List (Str × Addr)} {qn : Str} {fo : Option Addr} {cdv : Value}
theorem get_tok0 {lx dx io iod pb fs : Addr} {x wc tkx : Str} {pos : Nat} {kt : IoT} {lt1 : LxT} {b : Bool} {ev f sv : Value} {ln : Int} {t2 tl tt : Tok} {pn fn : Int} {st : LSt} {rem : List Nat}
  (B : Below A₀ base outer h₀) (F : Fr h₀ L s.heap m) (X : (hd.heap_1 w.params).In h₀) (T : Top p loose mean mg mb h₀) (hdp : d < 800) (hun : u < 8000)
  (hx : x.length ≤ 100000) (h1 : @LT.lt Nat _ dx lx) (h2 : @LT.lt Nat _ lx iod) (h3 : @LT.lt Nat _ iod io) (h4 : @LT.lt Nat _ io pb) (h5 : @LT.lt Nat _ pb fs) (hr1 : ∀ p ∈ (fs, dqO [] fn) :: rest, p.1 ≠ iod) (hr2 : ∀ p ∈ (fs, dqO [] fn) :: rest, p.1 ≠ dx) (hr3 : ∀ p ∈ (fs, dqO [] fn) :: rest, p.1 ≠ pb)
  (hsv : SV st sv) (hrem : x.cps.toList.drop pos = rem) (hst : st ≠ .word) (hfin : st = .fin → rem = []) (hok : ∀ c ∈ rem, Plain c) (htk : tkx = S []) (hEV : EV b ev)
  (N : News h₀ L s.heap ((io, instObj 587 iod) :: (iod, ioD w.params kt x pos t2) :: (pb, dqO [] pn) :: (lx, instObj 722 dx) :: (dx, lexD w.params lt1 b false ev (Str.ofString "#") wc pb fs io f sv ln tl tkx tt) :: (fs, dqO [] fn) :: rest))
  (hQ : ∀ h' v sv' tl' tk' tt' pos' t2' pbs' pn' k, Fr h₀ L h' m →
    News h₀ L h' ((io, instObj 587 iod) :: (iod, ioD w.params kt x pos' t2') :: (pb, dqO pbs' pn') :: (lx, instObj 722 dx) :: (dx, lexD w.params lt1 b false ev (Str.ofString "#") wc pb fs io f sv' (rt b (fun c => wc.cps.toList.contains c) st [] rem ln).ln tl' tk' tt') :: (fs, dqO [] fn) :: rest) →
    tk' = S [] → SV (rt b (fun c => wc.cps.toList.contains c) st [] rem ln).st sv' → x.cps.toList.drop pos' = (rt b (fun c => wc.cps.toList.contains c) st [] rem ln).rem →
    GV ev (rt b (fun c => wc.cps.toList.contains c) st [] rem ln).tok v → OV (rt b (fun c => wc.cps.toList.contains c) st [] rem ln).over pbs' [] → Q v { s with heap := h', toks := k })
  : wpAny (model prog w) (ar hdl d (fenv ns ig ic mo gl cs qn fo cdv bi L :: outer) gs u) (call (.ref 683) [.ref lx]) Q E s := by
  have hevh := ev_handed hEV
  refine wpAny_call ?_
  k_enter
  (repeat' (first | (k_unfold; (try dsimp only)) | ((fail_if_success (with_reducible show wpAny _ _ (call (Value.ref 690) [Value.ref _]) _ _ _)); walk1)))
  refine' rtok ?k1 ?k2 ?k3 ?k4 ?k5 ?k6 hx h1 h2 h3 h4 hr1 hr2 hr3 hsv hrem hst hfin hok ?k20 htk ?k22 ?_
  case k22 => with_reducible assumption
  case k20 => exact Nat.zero_le _
  case k1 => with_reducible assumption
  case k2 => with_reducible assumption
  case k3 => with_reducible assumption
  case k4 => with_reducible assumption
  case k5 => k_room
  case k6 => k_units
  intro h' v' sv' tl' tk' tt' pos' t2' pbs' pn' k' F' N' e1' e2' e3' hRV e5'
  (try dsimp only)
  (repeat' (first | (k_unfold; (try dsimp only)) | ((fail_if_success (with_reducible show wpAny _ _ (exec (Stmt.While _ _ _ _) _) _ _ _)); walk1)))
  clear N
  rename Fr _ _ _ _ => F1
  rename News _ _ _ _ => N1
  refine while_once F1 N1 ?_ (by passes_own)
  intro h tk F2 N2
  clear F1 N1
  (repeat' (first | (k_unfold; (try dsimp only)) | ((fail_if_success (with_reducible show wpAny _ _ (compareOp CmpOp.Eq _ _) _ _ _)); walk1)))
  refine eq_end hRV hEV ?_
  cases hemp : (rt b (fun c => wc.cps.toList.contains c) st [] rem ln).tok.isEmpty with
  | true =>
    k_steps
    dsimp only
    k_steps
    dsimp only [WhileStep2]
    k_steps
    exact hQ h _ sv' tl' tk' tt' pos' t2' pbs' pn' _ (by assumption) (by assumption) e1' e2' e3' (by unfold GV; rw [hemp]; rfl) e5'
  | false =>
    k_steps
    exact hQ h _ sv' tl' tk' tt' pos' t2' pbs' pn' _ (by assumption) (by assumption) e1' e2' e3' (rv_gv hRV hemp) e5'
end
end Mine

end
section
local macro_rules | `(tactic| walk_at "execs nil") => `(tactic| (with_reducible refine wpAny_execs_nil ?_))
local macro_rules | `(tactic| walk_at "exec If") => `(tactic| ((try k_fold); with_reducible refine wpAny_If ?_))
local macro_rules | `(tactic| ktr_unf) => `(tactic| (repeat' (first | (k_unfold; (try dsimp only)) | ((fail_if_success (with_reducible show wpAny _ _ (exec (Stmt.While _ _ _ _) _) _ _ _)); walk1))))
local macro_rules | `(tactic| walk_at "ite") => `(tactic| first | with_reducible refine Mine.ite_t ?_ | with_reducible refine Mine.ite_f ?_)
local macro_rules | `(tactic| walk_at "execs cons") => `(tactic| ((try dsimp only); with_reducible refine wpAny_execs_cons ?_))
local macro_rules | `(tactic| walk_at "exec For Name Name cons nil") => `(tactic| (k_here; (rename Fr _ _ _ _ => lF'); (with_reducible refine For_invVF lF' ?k1 ?k2 ?_ ?k3 ?k4); (case k1 => exact rfl); (case k2 => exact rfl); (case k3 => exact fun _ => rfl); (case k4 => passes_own); k_whole))
namespace Mine
section
variable {w : World} {A₀ : Around} {base h₀ : Heap} {outer : List Env} {L : Addr} {m mg mb : Str → Option Value} {loose : List Str} {mean : ExcName → Option Value} {s : Shared} {Q E : Value → Shared → Prop} {p : Program}
  {hdl : Option Value} {d u : Nat} {gs : Option (List Code)} {rest : List (Addr × Obj)} {ns : List (Str × NameKind)} {ig ic : Bool} {mo : List (Str × Const)} {gl bi : Addr} {cs : List (Str × Addr)} {qn : Str} {fo : Option Addr} {cdv : Value}
def A7 (c : Nat) : Prop := c ∈ [97, 98, 32, 61, 10, 43, 9]
structure DS where
  n : Int
  tn : Tok
  tx : List Nat
  tt : Tok
  dv : List Value
  dn : Nat
theorem dr_gen {g h : Heap} {L dl l : Addr} {o : Obj} {rest : List (Addr × Obj)} {m : Str → Option Value} {t : Tok} (F : Fr g L h (fun y => if y = Str.ofString "deeds" then some (.ref dl) else if y = Str.ofString "text" then some (.str (Str.ofString "") t) else m y))
  (N : News g L h ((dl, listOf #[] 0) :: (l, o) :: rest)) (ho : @LT.lt Nat _ l dl ∧ AllLt dl rest) :
  ∃ m' t dl, @LT.lt Nat _ l dl ∧ AllLt dl rest ∧ News g L h ((dl, listOf #[] 0) :: (l, o) :: rest) ∧ Fr g L h m' ∧ m' (Str.ofString "text") = some (.str (S []) t) ∧ m' (Str.ofString "deeds") = some (.ref dl) :=
  ⟨_, t, dl, ho.1, ho.2, N, F, by rw [← S_nil]; exact (if_neg (by decide +kernel)).trans (if_pos rfl), if_pos rfl⟩
theorem dr_gen2 {g h : Heap} {L dl : Addr} {m1 u : Str → Option Value} {n : Int} {tx : List Nat} {v : Value} {t t0 : Tok}
  (F : Fr g L h (fun y => if y = Str.ofString "n" then some (.int n t) else if y = Str.ofString "x" then some v else kstB (fun z => if [Str.ofString "n", Str.ofString "k"].contains z then u z else m1 z) [(Str.ofString "text", .str (S tx) t0), (Str.ofString "deeds", .ref dl)] y)) (hn : n < 16 ^ 9) :
  ∃ m' t n, n < 16 ^ 9 ∧ Fr g L h m' ∧ m' (Str.ofString "n") = some (.int n t) ∧ m' (Str.ofString "text") = some (.str (S tx) t0) ∧ m' (Str.ofString "deeds") = some (.ref dl) ∧
    ∀ z, z ≠ Str.ofString "x" → z ≠ Str.ofString "text" → z ≠ Str.ofString "deeds" → [Str.ofString "n", Str.ofString "k"].contains z = false → m' z = m1 z := by
  have a1 : ¬ Str.ofString "text" = Str.ofString "n" := by decide +kernel
  have a2 : ¬ Str.ofString "text" = Str.ofString "x" := by decide +kernel
  have a3 : ¬ Str.ofString "deeds" = Str.ofString "n" := by decide +kernel
  have a4 : ¬ Str.ofString "deeds" = Str.ofString "x" := by decide +kernel
  have a5 : ¬ Str.ofString "deeds" = Str.ofString "text" := by decide +kernel
  refine ⟨_, t, n, hn, F, if_pos rfl, ?_, ?_, ?_⟩
  · simp only [kstB, a1, a2, if_true, if_false]
  · simp only [kstB, a3, a4, a5, if_true, if_false]
  · intro z hx b1 b2 hs
    have b3 : ¬ z = Str.ofString "n" := by intro e; subst e; simp at hs
    simp only [kstB, hx, b1, b2, b3, hs, if_false, Bool.false_eq_true]
theorem dr_n (x : Int) : x.fmod (16 ^ Int.toNat 8) + 1 < 16 ^ 9 := by
  have h1 : x.fmod (16 ^ Int.toNat 8) < 16 ^ Int.toNat 8 := Int.fmod_lt_of_pos _ (by decide)
  have h2 : (16 : Int) ^ Int.toNat 8 = 4294967296 := by decide
  have h3 : (16 : Int) ^ 9 = 68719476736 := by decide
  omega
theorem dr_m {n : Int} (h : 0 < n) : ((n - 1).fdiv 16).toNat < n.toNat := by
  rw [Int.fdiv_eq_ediv_of_nonneg _ (by decide)]; omega
theorem dr_p {n : Int} {j a b : Nat} (h : 0 < n) (hn : n < 16 ^ j) (hl : a + j ≤ b) : ∃ j', (n - 1).fdiv 16 < 16 ^ j' ∧ a + 1 + j' ≤ b := by
  cases j with
  | zero => simp at hn; omega
  | succ j =>
    rw [Int.pow_succ] at hn
    refine ⟨j, ?_, by omega⟩
    rw [Int.fdiv_eq_ediv_of_nonneg _ (by decide)]
    omega
def DI (tx : List Nat) (dv : List Value) (b : Nat) : Prop := (∀ a ∈ tx, A7 a) ∧ ∃ ks, IntsAre dv ks ∧ (∀ k ∈ ks, 7 ≤ k ∧ k < 16) ∧ tx.length + ks.length ≤ b
theorem dr_end {g h h2 : Heap} {L l dl : Addr} {s : Shared} {tk tk2 nn dn : Nat} {m1 m2 u2 : Str → Option Value} {n x : Int} {tx : List Nat} {t t0 : Tok} {own rest : List (Addr × Obj)} {vs : Array Value} {dv : List Value} {pre : List Int}
  (F : Fr g L h2 (kstB (fun z => if [Str.ofString "k"].contains z then u2 z else m2 z) [(Str.ofString "n", .int n t), (Str.ofString "text", .str (S tx) t0), (Str.ofString "deeds", .ref dl)]))
  (N : News g L h2 ((dl, listOf dv.toArray dn) :: (l, listOf vs nn) :: rest ++ own))
  (e5 : ∀ z, z ≠ Str.ofString "x" → z ≠ Str.ofString "text" → z ≠ Str.ofString "deeds" → [Str.ofString "n", Str.ofString "k"].contains z = false → m2 z = m1 z)
  (hpl : DI tx dv (9 * pre.length + 9)) :
  InvEndN g L (KstS (σ := DS) (fun c => (dl, listOf c.dv.toArray c.dn) :: (l, listOf vs nn) :: rest) (fun c => [(Str.ofString "text", .str (S c.tx) c.tt), (Str.ofString "deeds", .ref dl)]) (fun _ => True) (Str.ofString "x") [Str.ofString "n", Str.ofString "k"] m1 (fun pre c => DI c.tx c.dv (9 * pre.length)) (pre ++ [x]))
    own (dl :: l :: rest.map (·.1)) { s with heap := h, toks := tk } { s with heap := h2, toks := tk2 } := by
  have a1 : ¬ Str.ofString "text" = Str.ofString "n" := by decide +kernel
  have a3 : ¬ Str.ofString "deeds" = Str.ofString "n" := by decide +kernel
  have a5 : ¬ Str.ofString "deeds" = Str.ofString "text" := by decide +kernel
  refine ⟨_, _, _, _, (dl, listOf dv.toArray dn) :: (l, listOf vs nn) :: rest, rfl, F, N, fun p hp => List.mem_append_left _ hp, fun p hp => List.mem_append_right _ hp, rfl, ⟨0, 0, tx, t0, dv, dn⟩, rfl, trivial, ?_, ?_, ?_⟩
  · intro p hp
    simp only [List.mem_cons, List.not_mem_nil, or_false] at hp
    rcases hp with rfl | rfl
    · simp only [kstB, a1, if_true, if_false]
    · simp only [kstB, a3, a5, if_true, if_false]
  · intro z hx hp hs
    have b1 := hp _ (.head _)
    have b2 := hp _ (.tail _ (.head _))
    dsimp only at b1 b2
    have b3 : ¬ z = Str.ofString "n" := by intro e; subst e; simp at hs
    have b4 : [Str.ofString "k"].contains z = false := by
      simp only [List.contains_cons, Bool.or_eq_false_iff] at hs ⊢
      exact hs.2
    simp only [kstB, b1, b2, b3, b4, if_false, Bool.false_eq_true]
    exact e5 z hx b1 b2 hs
  · simp only [List.length_append, List.length_singleton]
    exact hpl
theorem dne_nk : (Str.ofString "n" = Str.ofString "k") = False := eq_false (by decide +kernel)
theorem dne_tn : (Str.ofString "text" = Str.ofString "n") = False := eq_false (by decide +kernel)
theorem dne_tk : (Str.ofString "text" = Str.ofString "k") = False := eq_false (by decide +kernel)
theorem dne_dn : (Str.ofString "deeds" = Str.ofString "n") = False := eq_false (by decide +kernel)
theorem dne_dk : (Str.ofString "deeds" = Str.ofString "k") = False := eq_false (by decide +kernel)
theorem dne_dt : (Str.ofString "deeds" = Str.ofString "text") = False := eq_false (by decide +kernel)
theorem dr3 {α : Type} {P : α → Prop} {a b c : α} (ha : P a) (hb : P b) (hc : P c) : ∀ p ∈ [a, b, c], P p := by
  intro p hp
  simp only [List.mem_cons, List.not_mem_nil, or_false] at hp
  rcases hp with rfl | rfl | rfl <;> assumption
def l7 : List Nat := [97, 98, 32, 61, 10, 43, 9]
theorem item7 : ∀ j : Fin 7, Txt.item (Str.ofString "ab =\n+\t") (j.val : Int) = ⟨#[l7[j.val]'j.isLt]⟩ := by decide +kernel
theorem item_A7 {k : Int} (h0 : 0 ≤ k) (h7 : k < 7) : ∃ c, Txt.item (Str.ofString "ab =\n+\t") k = ⟨#[c]⟩ ∧ A7 c := by
  obtain ⟨j, rfl⟩ := Int.eq_ofNat_of_zero_le h0
  have hj : j < 7 := by omega
  refine ⟨l7[j]'hj, item7 ⟨j, hj⟩, ?_⟩
  exact List.getElem_mem (l := l7) hj
theorem dr_add {w : World} {A : Around} {E : Value → Shared → Prop} {s : Shared} {Q : Value → Shared → Prop} {l : List Nat} {y : Str} {t u : Tok} (hc : ∃ c, y = ⟨#[c]⟩ ∧ A7 c) (hl : l.length ≤ 100000)
    (h : ∀ c t' k, A7 c → Q (.str (S (l ++ [c])) t') { s with toks := k }) : wpAny (model prog w) A (inplaceOp .Add (.str (S l) t) (.str y u)) Q E s := by
  obtain ⟨c, rfl, hc⟩ := hc
  exact add_S hl fun t' k => h c t' k hc
theorem dr_t {tx : List Nat} {dv : List Value} {a c : Nat} (h : DI tx dv a) (hc : A7 c) : DI (tx ++ [c]) dv (a + 1) := by
  obtain ⟨h1, ks, h2, h3, h4⟩ := h
  refine ⟨fun x hx => ?_, ks, h2, h3, by simp; omega⟩
  rcases List.mem_append.mp hx with hx | hx
  · exact h1 x hx
  · rw [List.mem_singleton.mp hx]; exact hc
theorem dr_d {tx : List Nat} {dv : List Value} {a : Nat} {k : Int} {t : Tok} (h : DI tx dv a) (h7 : ¬ k < 7) (h16 : k < 16) : DI tx (dv ++ [.int k t]) (a + 1) := by
  obtain ⟨h1, ks, h2, h3, h4⟩ := h
  refine ⟨h1, ks ++ [k], h2.append (.cons k t .nil), fun x hx => ?_, by simp; omega⟩
  rcases List.mem_append.mp hx with hx | hx
  · exact h3 x hx
  · rw [List.mem_singleton.mp hx]; omega
theorem dr_len {tx : List Nat} {dv : List Value} {a : Nat} (h : DI tx dv a) : tx.length ≤ a ∧ dv.length ≤ a := by
  obtain ⟨_, ks, h2, _, h4⟩ := h
  have := h2.length
  omega
theorem dr_lt {d : Addr} : ∀ {l : List (Addr × Obj)}, AllLt d l → ∀ p ∈ l, p.1 ≠ d
  | [], _, _, hp => nomatch hp
  | _ :: _, h, _, .head _ => Nat.ne_of_lt h.1
  | _ :: _, h, _, .tail _ hp => dr_lt h.2 _ hp
theorem dr_kend {g h2 : Heap} {L l dl : Addr} {s : Shared} {tk2 nn dn' dnc : Nat} {m2 m' : Str → Option Value} {n' nc : Int} {tn' tnc t' ttc : Tok} {tx' txc : List Nat} {own rest : List (Addr × Obj)} {vs : Array Value} {dv' dvc : List Value} {P : DS → Prop}
  (F : Fr g L h2 m') (N : News g L h2 ((dl, listOf dv'.toArray dn') :: (l, listOf vs nn) :: rest ++ own))
  (h0 : m' (Str.ofString "n") = some (.int n' tn')) (h1 : m' (Str.ofString "text") = some (.str (S tx') t')) (h3 : m' (Str.ofString "deeds") = some (.ref dl))
  (hr : ∀ z, z ≠ Str.ofString "n" → z ≠ Str.ofString "text" → z ≠ Str.ofString "deeds" → z ≠ Str.ofString "k" → m' z = m2 z) (hm : n'.toNat < nc.toNat) (hP : P ⟨n', tn', tx', t', dv', dn'⟩) :
  KswEnd g L s (fun c : DS => (dl, listOf c.dv.toArray c.dn) :: (l, listOf vs nn) :: rest ++ own) (fun c => [(Str.ofString "n", .int c.n c.tn), (Str.ofString "text", .str (S c.tx) c.tt), (Str.ofString "deeds", .ref dl)]) (fun _ => True) [Str.ofString "k"] m2 P (fun c => c.n.toNat) ⟨nc, tnc, txc, ttc, dvc, dnc⟩ { s with heap := h2, toks := tk2 } := by
  refine ksw_end (σ := DS) ⟨n', tn', tx', t', dv', dn'⟩ F N (fun p hp => hp) trivial (dr3 h0 h1 h3) ?_ hP hm
  intro z h1 h2
  refine hr z (h1 _ (.head _)) (h1 _ (.tail _ (.head _))) (h1 _ (.tail _ (.tail _ (.head _)))) ?_
  intro e
  subst e
  simp at h2
theorem dr_tl {h₀ h : Heap} {L : Addr} {a : Addr × Obj} {l : List (Addr × Obj)} (N : News h₀ L h (a :: l)) : News h₀ L h l := fun q hq => N q (.tail _ hq)
end
end Mine
local macro_rules | `(tactic| walk_at "inplaceOp Add str str") => `(tactic| (k_here; (try dsimp only); (with_reducible show wpAny _ _ (inplaceOp Operator.Add (Value.str (Mine.S _) _) (Value.str (Txt.item _ _) _)) _ _ _); k_dflt (refine' Mine.dr_add ?c ?l ?_; (case c => exact Mine.item_A7 (Int.fmod_nonneg_of_pos _ (by decide)) (by assumption)); (case l => omega)); intro c' t' k' hc'; (try dsimp only)))
namespace Mine
section
variable {w : World} {A₀ : Around} {base h₀ : Heap} {outer : List Env} {L : Addr} {m mg mb : Str → Option Value} {loose : List Str} {mean : ExcName → Option Value} {s : Shared} {Q E : Value → Shared → Prop} {p : Program}
  {hdl : Option Value} {d u : Nat} {gs : Option (List Code)} {rest : List (Addr × Obj)} {ns : List (Str × NameKind)} {ig ic : Bool} {mo : List (Str × Const)} {gl bi : Addr} {cs : List (Str × Addr)} {qn : Str} {fo : Option Addr} {cdv : Value}
theorem draw3 {l : Addr} {vs : List Value} {nums : List Int} {nn : Nat}
  (B : Below A₀ base outer h₀) (F : Fr h₀ L s.heap m) (X : (hd.heap_1 w.params).In h₀) (T : Top p loose mean mg mb h₀) (hdp : d < 900) (hun : u < 9000)
  (hi : IntsAre vs nums) (hlen : nums.length ≤ 40)
  (N : News h₀ L s.heap ((l, listOf vs.toArray nn) :: rest))
  (hQ : ∀ h' x t k q dl dv dn ks, Fr h₀ L h' m → News h₀ L h' ((q, { cls := .type "tuple", data := .seq #[.str (S x) t, .ref dl] }) :: (dl, listOf (dv : List Value).toArray dn) :: (l, listOf vs.toArray nn) :: rest) → (@LT.lt Nat _ dl q ∧ @LT.lt Nat _ l q ∧ AllLt q rest) → (@LT.lt Nat _ l dl ∧ AllLt dl rest) → (∀ c ∈ x, A7 c) → IntsAre dv ks → (∀ k ∈ ks, 7 ≤ k ∧ k < 16) → x.length + ks.length ≤ 9 * nums.length → Q (.ref q) { s with heap := h', toks := k })
  : wpAny (model prog w) (ar none d (fenv ns ig ic mo gl cs qn fo cdv bi L :: outer) gs u) (call (.ref 733) [.ref l]) Q E s := by
  refine wpAny_call ?_
  k_enter
  (repeat' (first | (k_unfold; (try dsimp only)) | ((fail_if_success (with_reducible show wpAny _ _ (pyIter _) _ _ _)); walk1)))
  rename Fr _ _ _ _ => F1
  rename News _ _ _ _ => N1
  obtain ⟨m1, t0, dl, ho1, ho2, N1, F1, e0, e1⟩ := dr_gen F1 N1 (by assumption)
  refine kst_listL (σ := DS) (fun c => (dl, listOf c.dv.toArray c.dn) :: (l, listOf vs.toArray nn) :: rest) (fun c => [(Str.ofString "text", .str (S c.tx) c.tt), (Str.ofString "deeds", .ref dl)]) (fun _ => True) ([Str.ofString "n", Str.ofString "k"]) (fun pre c => DI c.tx c.dv (9 * pre.length)) ⟨0, 0, [], t0, [], 0⟩ rfl (fun _ => .tail _ (.head _)) hi F1 N1 trivial ?_ ?_ ?_ ?_
  · intro p hp
    simp only [List.mem_cons, List.not_mem_nil, or_false] at hp
    rcases hp with rfl | rfl <;> assumption
  · exact ⟨by simp, [], .nil, by simp, by simp⟩
  · rintro ⟨n0, tn0, tx, tt, dv, dn⟩ pre post x tx0 u h tk own hns hxm hoff _ hpl F2 N2
    clear F1 N1
    dsimp only at F2 N2 hpl
    ktr_unf
    rename Fr _ _ _ _ => F1
    rename News _ _ _ _ => N1
    obtain ⟨m2, tn2, n2, hn2, F1, e2, e3, e4, e5⟩ := dr_gen2 F1 (dr_n x)
    refine ksw_while (σ := DS) (fun c => (dl, listOf c.dv.toArray c.dn) :: (l, listOf vs.toArray nn) :: rest ++ own) (fun c => [(Str.ofString "n", .int c.n c.tn), (Str.ofString "text", .str (S c.tx) c.tt), (Str.ofString "deeds", .ref dl)]) (fun _ => True) ([Str.ofString "k"])
      (fun c => ∃ a : Nat, DI c.tx c.dv a ∧ ∃ j : Nat, c.n < 16 ^ j ∧ a + j ≤ 9 * pre.length + 9) (fun c => c.n.toNat) ⟨n2, tn2, tx, tt, dv, dn⟩ F1 N1 trivial ?_ ?_ ?_ ?_
    · exact dr3 e2 e3 e4
    · exact ⟨9 * pre.length, hpl, 9, hn2, by omega⟩
    · clear F1 N1 F2 N2 hQ e2 e3 e4 hpl N F hxm
      rintro ⟨n1, tn1, tx1, tt1, dv1, dn1⟩ u2 h2 tk2 _ ⟨a, hpl, j, hnj, hl9⟩ F2 N2
      dsimp only at F2 N2 hpl hl9 hnj
      have hpre : pre.length ≤ 40 := by rw [hns] at hlen; simp at hlen; omega
      have hdl := dr_len hpl
      have hall : ∀ p ∈ (l, listOf vs.toArray nn) :: rest ++ own, p.1 ≠ dl := by
        intro p hp
        rcases List.mem_append.mp hp with hp | hp
        · rcases List.mem_cons.mp hp with rfl | hp
          · exact Nat.ne_of_lt ho1
          · exact dr_lt ho2 p hp
        · exact hoff.ne (.head _) p hp
      (repeat' (first | (k_unfold; (try dsimp only)) | ((fail_if_success (with_reducible show wpAny _ _ (exec (Stmt.If _ _ _ _) _) _ _ _)); (fail_if_success (with_reducible show InvEndN _ _ _ _ _ _ _)); walk1)))
      · rename News _ _ _ (_ :: _) => N8
        have N9 := dr_tl N8
        clear N8
        (repeat' (first | (k_unfold; (try dsimp only)) | ((fail_if_success (with_reducible show wpAny _ _ (call (Value.builtin "list.append") _) _ _ _)); walk1)))
        · (refine' dr_kend ?F ?N ?h0 ?h1 ?h3 ?hr ?hm _; (case F => assumption); (case N => assumption); (case h0 => (simp only [kstB, dne_nk, dne_tn, dne_tk, dne_dn, dne_dk, dne_dt, if_true, if_false]; try rfl)); (case h1 => (simp only [kstB, dne_nk, dne_tn, dne_tk, dne_dn, dne_dk, dne_dt, if_true, if_false]; try rfl)); (case h3 => (simp only [kstB, dne_nk, dne_tn, dne_tk, dne_dn, dne_dk, dne_dt, if_true, if_false]; try rfl)); (case hr => (intro z b1 b2 b3 b4; have b5 : [Str.ofString "k"].contains z = false := (by simp only [List.contains_cons, List.contains_nil, Bool.or_false]; exact beq_eq_false_iff_ne.mpr b4); simp only [kstB, b1, b2, b3, b4, b5, if_false, Bool.false_eq_true])); (case hm => exact dr_m (by assumption)))
          obtain ⟨j', q1, q2⟩ := dr_p (by assumption) hnj hl9
          exact ⟨a + 1, dr_t hpl (by assumption), j', q1, q2⟩
        · rename Fr _ _ _ _ => F9
          refine append_K F9 N9 (Upd.head hall) ?_ (by rw [PySem.sizeLine_eq, List.size_toArray]; omega)
          intro h10 F10 N10
          rw [List.push_toArray] at N10
          clear N9 F9
          k_steps
          (refine' dr_kend ?F ?N ?h0 ?h1 ?h3 ?hr ?hm _; (case F => assumption); (case N => assumption); (case h0 => (simp only [kstB, dne_nk, dne_tn, dne_tk, dne_dn, dne_dk, dne_dt, if_true, if_false]; try rfl)); (case h1 => (simp only [kstB, dne_nk, dne_tn, dne_tk, dne_dn, dne_dk, dne_dt, if_true, if_false]; try rfl)); (case h3 => (simp only [kstB, dne_nk, dne_tn, dne_tk, dne_dn, dne_dk, dne_dt, if_true, if_false]; try rfl)); (case hr => (intro z b1 b2 b3 b4; have b5 : [Str.ofString "k"].contains z = false := (by simp only [List.contains_cons, List.contains_nil, Bool.or_false]; exact beq_eq_false_iff_ne.mpr b4); simp only [kstB, b1, b2, b3, b4, b5, if_false, Bool.false_eq_true])); (case hm => exact dr_m (by assumption)))
          obtain ⟨j', q1, q2⟩ := dr_p (by assumption) hnj hl9
          exact ⟨a + 1, dr_d hpl (by assumption) (Int.fmod_lt_of_pos _ (by decide)), j', q1, q2⟩
      · refine dr_end F2 N2 e5 ?_
        obtain ⟨g1, ks, g2, g3, g4⟩ := hpl
        exact ⟨g1, ks, g2, g3, by omega⟩
    · passes_own
  · rintro ⟨n0, tn0, tx, tt, dv, dn⟩ u h tk _ ⟨hpl, ks, h1, h2, h3⟩ F2 N2
    clear F1 N1
    dsimp only at F2 N2 hpl h1 h2 h3
    k_steps
    exact hQ _ _ _ _ _ dl _ _ _ (by assumption) (by assumption) (by rename _ ∧ _ ∧ AllLt _ rest => l9; exact l9) ⟨ho1, ho2⟩ hpl h1 h2 h3
end
end Mine

end
section
namespace Mine
theorem gs_get {w : World} {A : Around} {E : Value → Shared → Prop} {Q : Value → Shared → Prop} {s : Shared} {h₀ : Heap} {L ga : Addr} {news : List (Addr × Obj)} {us : List Value} {v : Value} {gn : Nat} {u : Tok} (N : News h₀ L s.heap news) (hm : (ga, listOf (us ++ [v]).toArray gn) ∈ news) (h : Q v s) :
    wpAny (model prog w) A (getItem (.ref ga) (.int (-1) u)) Q E s :=
  wpAny_getItem_list_neg ⟨_, N.get hm, rfl, gn, rfl⟩ (by decide) (by simp; omega) (by decide) (by
    have e : ((-1 : Int) + ((us ++ [v]).toArray.size : Int)).toNat = us.length := by simp; omega
    rw [e]; simp) h
theorem set_last (v v' : Value) : ∀ us : List Value, ki_setL (us ++ [v]) us.length v' = some (us ++ [v'])
  | [] => rfl
  | x :: r => by
    show (match ki_setL (r ++ [v]) r.length v' with | some q => some (x :: q) | none => none) = _
    rw [set_last v v' r]
    rfl
theorem gs_set {w : World} {A : Around} {E : Value → Shared → Prop} {Q : Unit → Shared → Prop} {s : Shared} {h₀ : Heap} {L ga : Addr} {m : Str → Option Value} {news news' : List (Addr × Obj)} {us : List Value} {v v' : Value} {gn : Nat} {u : Tok} (F : Fr h₀ L s.heap m) (N : News h₀ L s.heap news)
    (U : Upd ga (listOf (us ++ [v]).toArray gn) (listOf (us ++ [v']).toArray gn) news news') (h : ∀ h', Fr h₀ L h' m → News h₀ L h' news' → Q () { s with heap := h' }) : wpAny (model prog w) A (setItem (.ref ga) (.int (-1) u) v') Q E s :=
  ki_setNeg F N (by decide) (by decide) (j := us.length) (by
    have h1 := PySem.seqIndex_neg (k := -1) (n := (us ++ [v]).toArray.size) (by decide) (by simp; omega)
    rw [h1]
    congr 1
    simp; omega) (by simpa using set_last v v' us) U h
theorem app_own {w : World} {A : Around} {E : Value → Shared → Prop} {Q : Value → Shared → Prop} {s : Shared} {h₀ : Heap} {L l : Addr} {m : Str → Option Value} {R : List (Addr × Obj)} {vs : List Value} {v : Value} {k : Nat} (F : Fr h₀ L s.heap m) (N : News h₀ L s.heap ((l, listOf vs.toArray k) :: R)) (hR : ∀ p ∈ R, p.1 ≠ l) (hz : vs.length ≤ 1000000)
    (h : ∀ h', Fr h₀ L h' m → News h₀ L h' ((l, listOf (vs ++ [v]).toArray (k + 1)) :: R) → Q .none { s with heap := h' }) : wpAny (model prog w) A (call (.builtin "list.append") [.ref l, v]) Q E s := by
  refine append_K F N (Upd.head hR) (fun h' F' N' => ?_) (by rw [PySem.sizeLine_eq, List.size_toArray]; omega)
  rw [List.push_toArray] at N'
  exact h h' F' N'
theorem news_rot2 {h₀ h : Heap} {L : Addr} {l1 l2 : List (Addr × Obj)} (N : News h₀ L h (l1 ++ l2)) : News h₀ L h (l2 ++ l1) := fun p hp => N p (List.mem_append.mpr (List.mem_append.mp hp).symm)
end Mine

end
section
namespace Mine
/-! law 3: the row of tokens of a text without comments -/
structure TF where
  gi : List (List Nat)
  bf : Bool
def tstep (W : Nat → Bool) (g : TF) (c : Nat) : TF :=
  if W c then (if g.bf then ⟨g.gi.dropLast ++ [g.gi.getLast?.getD [] ++ [c]], true⟩ else ⟨g.gi ++ [[c]], true⟩)
  else if isWs c then ⟨g.gi, false⟩
  else ⟨g.gi ++ [[c]], false⟩
def tfold (W : Nat → Bool) (g : TF) (l : List Nat) : TF := l.foldl (tstep W) g
def toksOf (W : Nat → Bool) (l : List Nat) : List (List Nat) := (tfold W ⟨[], false⟩ l).gi
theorem tfold_snoc (W : Nat → Bool) (g : TF) (l : List Nat) (c : Nat) : tfold W g (l ++ [c]) = tstep W (tfold W g l) c := by
  unfold tfold
  rw [List.foldl_append]; rfl
theorem tstep_bf (W : Nat → Bool) (g : TF) (c : Nat) : (tstep W g c).bf = W c := by
  unfold tstep
  cases h : W c with
  | true => simp only [if_true]; split <;> rfl
  | false => simp only [Bool.false_eq_true, if_false]; split <;> rfl
theorem tstep_ne (W : Nat → Bool) (g : TF) (c : Nat) (h : W c = true) : (tstep W g c).gi ≠ [] := by
  unfold tstep
  rw [h]
  simp only [if_true]
  split <;> simp
theorem tfold_pre (W : Nat → Bool) (p : List (List Nat)) : ∀ (l : List Nat) (q : List (List Nat)) (bf : Bool), (bf = true → q ≠ []) → (tfold W ⟨p ++ q, bf⟩ l).gi = p ++ (tfold W ⟨q, bf⟩ l).gi
  | [], _, _, _ => rfl
  | c :: r, q, bf, h => by
    show (tfold W (tstep W ⟨p ++ q, bf⟩ c) r).gi = p ++ (tfold W (tstep W ⟨q, bf⟩ c) r).gi
    unfold tstep
    cases hw : W c with
    | true =>
      simp only [if_true]
      cases bf with
      | true =>
        simp only [if_true]
        have hq := h rfl
        obtain ⟨q0, x, rfl⟩ : ∃ q0 x, q = q0 ++ [x] := ⟨_, _, (List.dropLast_concat_getLast hq).symm⟩
        have e1 : (p ++ (q0 ++ [x])).dropLast ++ [(p ++ (q0 ++ [x])).getLast?.getD [] ++ [c]] = p ++ (q0 ++ [x ++ [c]]) := by
          rw [← List.append_assoc, List.dropLast_concat, List.getLast?_concat]
          simp
        have e2 : (q0 ++ [x]).dropLast ++ [(q0 ++ [x]).getLast?.getD [] ++ [c]] = q0 ++ [x ++ [c]] := by
          rw [List.dropLast_concat, List.getLast?_concat]
          simp
        rw [e1, e2]
        exact tfold_pre W p r _ _ (fun _ => by simp)
      | false =>
        simp only [Bool.false_eq_true, if_false]
        rw [List.append_assoc]
        exact tfold_pre W p r _ _ (fun _ => by simp)
    | false =>
      simp only [Bool.false_eq_true, if_false]
      cases hs : isWs c with
      | true =>
        simp only [if_true]
        exact tfold_pre W p r _ _ (fun h => by cases h)
      | false =>
        simp only [Bool.false_eq_true, if_false]
        rw [List.append_assoc]
        exact tfold_pre W p r _ _ (fun h => by cases h)
theorem tfold_gi (W : Nat → Bool) (p : List (List Nat)) (l : List Nat) : (tfold W ⟨p, false⟩ l).gi = p ++ toksOf W l := by
  have := tfold_pre W p l [] false (fun h => by cases h)
  rw [List.append_nil] at this
  exact this
section
variable {b : Bool} {W : Nat → Bool} (hW : WOk W)
include hW
structure TwOk (W : Nat → Bool) (tok : List Nat) (rem : List Nat) (r : RtR) : Prop where
  ne : r.tok ≠ []
  le : r.rem.length ≤ rem.length
  st : r.st = .white ∨ (r.st = .fin ∧ r.rem = [])
  out : (tfold W ⟨[tok], true⟩ rem).gi = r.tok :: (r.over.toList.map fun c => [c]) ++ toksOf W r.rem
theorem tk_word : ∀ (rem tok : List Nat) (ln : Int), (∀ c ∈ rem, isCm c = false) → tok ≠ [] → TwOk W tok rem (rt b W .word tok rem ln)
  | [], tok, ln, _, ht => by
    rw [rt]
    exact ⟨ht, Nat.le_refl _, .inr ⟨rfl, rfl⟩, by simp [tfold, toksOf]⟩
  | c :: r, tok, ln, hc, ht => by
    have hcm := hc c (.head _)
    have hr : ∀ c ∈ r, isCm c = false := fun a ha => hc a (.tail _ ha)
    rw [rt]
    cases hws : isWs c with
    | true =>
      simp only [if_true]
      refine ⟨ht, by simp, .inl rfl, ?_⟩
      show (tfold W (tstep W ⟨[tok], true⟩ c) r).gi = _
      have e : tstep W ⟨[tok], true⟩ c = ⟨[tok], false⟩ := by unfold tstep; rw [hW.ws c hws, hws]; rfl
      rw [e, tfold_gi]
      simp
    | false =>
      cases hw : W c with
      | true =>
        simp only [hcm, if_true, if_false, Bool.false_eq_true]
        have ih := tk_word r (tok ++ [c]) ln hr (by simp)
        refine ⟨ih.ne, by have := ih.le; simp only [List.length_cons]; omega, ih.st, ?_⟩
        show (tfold W (tstep W ⟨[tok], true⟩ c) r).gi = _
        have e : tstep W ⟨[tok], true⟩ c = ⟨[tok ++ [c]], true⟩ := by unfold tstep; rw [hw]; simp
        rw [e]
        exact ih.out
      | false =>
        simp only [hcm, if_false, Bool.false_eq_true]
        refine ⟨ht, by simp, .inl rfl, ?_⟩
        show (tfold W (tstep W ⟨[tok], true⟩ c) r).gi = _
        have e : tstep W ⟨[tok], true⟩ c = ⟨[tok, [c]], false⟩ := by unfold tstep; rw [hw, hws]; simp
        rw [e, tfold_gi]
        simp
structure TkOk (W : Nat → Bool) (rem : List Nat) (r : RtR) : Prop where
  lt : r.tok ≠ [] → r.rem.length < rem.length
  st : r.st = .white ∨ (r.st = .fin ∧ r.rem = [])
  nil : r.tok = [] → r.st = .fin ∧ r.rem = [] ∧ r.over = none ∧ toksOf W rem = []
  out : r.tok ≠ [] → toksOf W rem = r.tok :: (r.over.toList.map fun c => [c]) ++ toksOf W r.rem
theorem tk_white : ∀ (rem : List Nat) (ln : Int), (∀ c ∈ rem, isCm c = false) → TkOk W rem (rt b W .white [] rem ln)
  | [], ln, _ => by
    rw [rt]
    exact ⟨fun h => absurd rfl h, .inr ⟨rfl, rfl⟩, fun _ => ⟨rfl, rfl, rfl, rfl⟩, fun h => absurd rfl h⟩
  | c :: r, ln, hc => by
    have hcm := hc c (.head _)
    have hr : ∀ c ∈ r, isCm c = false := fun a ha => hc a (.tail _ ha)
    rw [rt]
    cases hws : isWs c with
    | true =>
      simp only [if_true]
      have ih := tk_white r (if c == 10 then ln + 1 else ln) hr
      have e : toksOf W (c :: r) = toksOf W r := by
        show (tfold W (tstep W ⟨[], false⟩ c) r).gi = _
        have e : tstep W ⟨[], false⟩ c = ⟨[], false⟩ := by unfold tstep; rw [hW.ws c hws, hws]; rfl
        rw [e]; rfl
      exact ⟨fun h => by have := ih.lt h; simp only [List.length_cons]; omega, ih.st, fun h => by rw [e]; exact ih.nil h, fun h => by rw [e]; exact ih.out h⟩
    | false =>
      cases hw : W c with
      | true =>
        simp only [hcm, if_true, if_false, Bool.false_eq_true]
        have ih := tk_word (b := b) hW r [c] ln hr (by simp)
        refine ⟨fun _ => by have := ih.le; simp only [List.length_cons]; omega, ih.st, fun h => absurd h ih.ne, fun _ => ?_⟩
        show (tfold W (tstep W ⟨[], false⟩ c) r).gi = _
        have e : tstep W ⟨[], false⟩ c = ⟨[[c]], true⟩ := by unfold tstep; rw [hw]; simp
        rw [e]
        exact ih.out
      | false =>
        simp only [hcm, if_false, Bool.false_eq_true]
        refine ⟨fun _ => by simp, .inl rfl, fun h => by simp at h, fun _ => ?_⟩
        show (tfold W (tstep W ⟨[], false⟩ c) r).gi = _
        have e : tstep W ⟨[], false⟩ c = ⟨[[c]], false⟩ := by unfold tstep; rw [hw, hws]; simp
        rw [e, tfold_gi]
        simp
end
end Mine

end
section
local macro_rules | `(tactic| walk_at "execs nil") => `(tactic| (with_reducible refine wpAny_execs_nil ?_))
local macro_rules | `(tactic| walk_at "exec If") => `(tactic| ((try k_fold); with_reducible refine wpAny_If ?_))
local macro_rules | `(tactic| walk_at "ite") => `(tactic| first | with_reducible refine Mine.ite_t ?_ | with_reducible refine Mine.ite_f ?_)
local macro_rules | `(tactic| walk_at "execs cons") => `(tactic| ((try dsimp only); with_reducible refine wpAny_execs_cons ?_))
local macro_rules | `(tactic| walk_at "compareOp In str str") => `(tactic| (k_here; (with_reducible show wpAny _ _ (compareOp CmpOp.In (Value.str (Str.mk #[_]) _) _) _ _ _); (with_reducible refine' Mine.in_ch ?e ?_); (case e => first | with_reducible assumption | rfl); k_whole))
local macro_rules | `(tactic| walk_at "compareOp NotIn str str") => `(tactic| (k_here; (with_reducible show wpAny _ _ (compareOp CmpOp.NotIn (Value.str (Str.mk #[_]) _) _) _ _ _); (with_reducible refine' Mine.notin_ch ?e ?_); (case e => first | with_reducible assumption | rfl); k_whole))
namespace Mine
section
variable {w : World} {A₀ : Around} {base h₀ : Heap} {outer : List Env} {L : Addr} {m mg mb : Str → Option Value} {loose : List Str} {mean : ExcName → Option Value} {s : Shared} {Q E : Value → Shared → Prop} {p : Program}
  {hdl : Option Value} {d u : Nat} {gs : Option (List Code)} {rest : List (Addr × Obj)} {ns : List (Str × NameKind)} {ig ic : Bool} {mo : List (Str × Const)} {gl bi : Addr} {cs : List (Str × Addr)} {qn : Str} {fo : Option Addr} {cdv : Value}
abbrev tkPs (rl : Addr) (x : List Nat) (tx : Tok) : List (Str × Value) := [(Str.ofString "row", .ref rl), (Str.ofString "text", .str (S x) tx)]
theorem tk_gen {g h : Heap} {L rl : Addr} {rest : List (Addr × Obj)} {m : Str → Option Value} {x : List Nat} {t : Tok} (F : Fr g L h m) (h0 : m (Str.ofString "row") = some (.ref rl)) (h1 : m (Str.ofString "text") = some (.str (S x) t))
  (N : News g L h ((rl, listOf #[] 0) :: rest)) (ho : ∀ p ∈ rest, p.1 < rl) :
  ∃ m' rl, (∀ p ∈ rest, p.1 < rl) ∧ News g L h ((rl, listOf #[] 0) :: rest) ∧ Fr g L h (kstB m' (tkPs rl x t)) := by
  refine ⟨m, rl, ho, N, ?_⟩
  have e : kstB m (tkPs rl x t) = m := by
    funext z
    refine kstB_eq (fun p hp => ?_) fun _ => rfl
    simp only [tkPs, List.mem_cons, List.not_mem_nil, or_false] at hp
    rcases hp with rfl | rfl <;> assumption
  rw [e]
  exact F
theorem tk_fin {g h : Heap} {L rl : Addr} {m : Str → Option Value} {x : List Nat} {t : Tok} (F : Fr g L h m) (h0 : m (Str.ofString "row") = some (.ref rl)) (h1 : m (Str.ofString "text") = some (.str (S x) t)) : Fr g L h (kstB m (tkPs rl x t)) := by
  have e : kstB m (tkPs rl x t) = m := by
    funext z
    refine kstB_eq (fun p hp => ?_) fun _ => rfl
    simp only [tkPs, List.mem_cons, List.not_mem_nil, or_false] at hp
    rcases hp with rfl | rfl <;> assumption
  rw [e]
  exact F
theorem kst_into {g h : Heap} {L : Addr} {m : Str → Option Value} {x1 x2 : Str} {v1 v2 : Value} {ps : List (Str × Value)} (F : Fr g L h (fun y => if y = x1 then some v1 else if y = x2 then some v2 else m y)) (hp : ∀ p ∈ ps, m p.1 = some p.2) : Fr g L h (fun y => if y = x1 then some v1 else if y = x2 then some v2 else kstB m ps y) := by
  have e : kstB m ps = m := by
    funext z
    exact kstB_eq hp fun _ => rfl
  rw [e]
  exact F
def J3 (W : Nat → Bool) (x : List Nat) (tx : Tok) (rl : Addr) (rest : List (Addr × Obj)) (i : Nat) (m₁ : Str → Option Value) (nx : List (Addr × Obj)) : Prop :=
  ∃ rv rn, nx = (rl, listOf (rv : List Value).toArray rn) :: rest ∧ m₁ (Str.ofString "row") = some (.ref rl) ∧ m₁ (Str.ofString "text") = some (.str (S x) tx) ∧ StrsAre rv ((toksOf W (x.take i)).map S) ∧ rv.length ≤ i
theorem S_length' (x : List Nat) : (S x).length = x.length := by simp [S, Str.length]
theorem a7_no : ∀ b : Bool, ∀ c ∈ [97, 98, 32, 61, 10, 43, 9], (WC b).cps.toList.contains c = true → isWs c = false := by decide +kernel
theorem tne_tr : (Str.ofString "text" = Str.ofString "row") = False := eq_false (by decide +kernel)
theorem tne_rs : (Str.ofString "row" = Str.ofString "sign") = False := eq_false (by decide +kernel)
theorem tne_rk : (Str.ofString "row" = Str.ofString "k") = False := eq_false (by decide +kernel)
theorem tne_ts : (Str.ofString "text" = Str.ofString "sign") = False := eq_false (by decide +kernel)
theorem tne_tk : (Str.ofString "text" = Str.ofString "k") = False := eq_false (by decide +kernel)
theorem a7_ab : ∀ b : Bool, ∀ c ∈ [97, 98, 32, 61, 10, 43, 9], (Str.ofString "ab").cps.toList.contains c = (WC b).cps.toList.contains c := by decide +kernel
theorem a7_ws : ∀ c ∈ [97, 98, 32, 61, 10, 43, 9], (Str.ofString " \t\n").cps.toList.contains c = isWs c := by decide +kernel
theorem item_at {x : List Nat} {j c : Nat} (h : x[j]? = some c) : Txt.item (S x) (((j + 1 : Nat) : Int) - 1) = ⟨#[c]⟩ := by
  have e : (((j + 1 : Nat) : Int) - 1) = (j : Int) := by omega
  rw [e]
  have hj : j < x.length := (List.getElem?_eq_some_iff.mp h).1
  have hq : seqIndex? (j : Int) x.length = some j := by
    unfold seqIndex?
    have h0 : ¬ ((j : Int) < 0) := by omega
    simp only [h0, if_false]
    simp [hj]
  unfold Txt.item Txt.charAt
  simp [S, Str.length, hq, h]
theorem toks_snoc {W : Nat → Bool} {x : List Nat} {i c : Nat} (h : x[i]? = some c) : toksOf W (x.take (i + 1)) = (tstep W (tfold W ⟨[], false⟩ (x.take i)) c).gi := by
  have e : x.take (i + 1) = x.take i ++ [c] := by rw [List.take_add_one, h]; rfl
  unfold toksOf
  rw [e, tfold_snoc]
theorem take_bf {W : Nat → Bool} {x : List Nat} {j c : Nat} (h : x[j]? = some c) : (tfold W ⟨[], false⟩ (x.take (j + 1))).bf = W c := by
  have e : x.take (j + 1) = x.take j ++ [c] := by rw [List.take_add_one, h]; rfl
  rw [e, tfold_snoc, tstep_bf]
theorem t3_new {W : Nat → Bool} {x : List Nat} {i c : Nat} {rv : List Value} {t : Tok} (h : x[i]? = some c) (hS : StrsAre rv ((toksOf W (x.take i)).map S)) (hc : W c = true → (tfold W ⟨[], false⟩ (x.take i)).bf = false) (hw : W c = false → isWs c = false) : StrsAre (rv ++ [.str ⟨#[c]⟩ t]) ((toksOf W (x.take (i + 1))).map S) := by
  have e : toksOf W (x.take (i + 1)) = toksOf W (x.take i) ++ [[c]] := by
    rw [toks_snoc h]
    unfold tstep
    cases hW : W c with
    | true => rw [hc hW]; rfl
    | false => rw [hw hW]; rfl
  rw [e, List.map_append]
  exact hS.append' (.cons _ _ .nil)
theorem t3_ws {W : Nat → Bool} {x : List Nat} {i c : Nat} {rv : List Value} (h : x[i]? = some c) (hS : StrsAre rv ((toksOf W (x.take i)).map S)) (hW : W c = false) (hw : isWs c = true) : StrsAre rv ((toksOf W (x.take (i + 1))).map S) := by
  have e : toksOf W (x.take (i + 1)) = toksOf W (x.take i) := by
    rw [toks_snoc h]
    unfold tstep
    rw [hW, hw]; rfl
  rw [e]; exact hS
theorem t3_snoc {x : Str} : ∀ {ws : List Str} {vs : List Value}, StrsAre vs (ws ++ [x]) → ∃ us t, vs = us ++ [.str x t] ∧ StrsAre us ws
  | [], _, .cons _ t .nil => ⟨[], t, rfl, .nil⟩
  | w :: ws, _, .cons _ t r => by
    obtain ⟨us, t', rfl, h⟩ := t3_snoc r
    exact ⟨.str w t :: us, t', rfl, .cons _ _ h⟩
theorem tfold_len (W : Nat → Bool) : ∀ (l : List Nat) (g : TF) (M : Nat), (∀ t ∈ g.gi, t.length ≤ M) → ∀ t ∈ (tfold W g l).gi, t.length ≤ M + l.length
  | [], _, _, h => h
  | c :: r, g, M, h => by
    have h1 : ∀ t ∈ (tstep W g c).gi, t.length ≤ M + 1 := by
      have hd : ∀ t ∈ g.gi.dropLast, t.length ≤ M := fun t ht => h t (List.dropLast_subset _ ht)
      have hl : (g.gi.getLast?.getD []).length ≤ M := by
        cases e : g.gi.getLast? with
        | none => simp
        | some a => exact h a (List.mem_of_getLast? e)
      have h0 : ∀ t ∈ g.gi, t.length ≤ M + 1 := fun t ht => Nat.le_succ_of_le (h t ht)
      have hs : ∀ t ∈ g.gi ++ [[c]], t.length ≤ M + 1 := by
        intro t ht
        rcases List.mem_append.mp ht with ht | ht
        · exact h0 t ht
        · rw [List.mem_singleton.mp ht]; simp
      unfold tstep
      split
      · split
        · intro t ht
          rcases List.mem_append.mp ht with ht | ht
          · exact Nat.le_succ_of_le (hd t ht)
          · rw [List.mem_singleton.mp ht, List.length_append]
            simpa using hl
        · exact hs
      · split
        · exact h0
        · exact hs
    intro t ht
    have := tfold_len W r (tstep W g c) (M + 1) h1 t ht
    simp only [List.length_cons]
    omega
theorem toks_len (W : Nat → Bool) (l : List Nat) : ∀ t ∈ toksOf W l, t.length ≤ l.length := by
  intro t ht
  have := tfold_len W l ⟨[], false⟩ 0 (by simp) t ht
  omega
theorem t3_last {W : Nat → Bool} {x : List Nat} {j c c0 : Nat} {rv : List Value} (h : x[j + 1]? = some c) (h0 : x[j]? = some c0) (hW0 : W c0 = true) (hS : StrsAre rv ((toksOf W (x.take (j + 1))).map S)) :
    ∃ us l t, rv = us ++ [.str (S l) t] ∧ l.length ≤ x.length ∧ (W c = true → ∀ t', StrsAre (us ++ [.str (S (l ++ [c])) t']) ((toksOf W (x.take (j + 2))).map S)) := by
  have hbf := take_bf (W := W) h0
  have hne : toksOf W (x.take (j + 1)) ≠ [] := by
    rw [toks_snoc h0]
    exact tstep_ne W _ _ hW0
  obtain ⟨gi, l, e⟩ : ∃ gi l, toksOf W (x.take (j + 1)) = gi ++ [l] := ⟨_, _, (List.dropLast_concat_getLast hne).symm⟩
  have hS' := hS
  rw [e, List.map_append, List.map_singleton] at hS'
  obtain ⟨us, t, rfl, h4⟩ := t3_snoc hS'
  refine ⟨us, l, t, rfl, ?_, fun hc t' => ?_⟩
  · have := toks_len W (x.take (j + 1)) l (by rw [e]; simp)
    rw [List.length_take] at this
    omega
  · have e2 : toksOf W (x.take (j + 2)) = gi ++ [l ++ [c]] := by
      rw [toks_snoc h]
      unfold tstep
      rw [hc, hbf, hW0]
      show (tfold W ⟨[], false⟩ (x.take (j + 1))).gi.dropLast ++ [(tfold W ⟨[], false⟩ (x.take (j + 1))).gi.getLast?.getD [] ++ [c]] = _
      have e3 : (tfold W ⟨[], false⟩ (x.take (j + 1))).gi = gi ++ [l] := e
      rw [e3]
      simp
    rw [e2, List.map_append, List.map_singleton]
    exact h4.append' (.cons _ _ .nil)
theorem in_item {w : World} {A : Around} {E : Value → Shared → Prop} {s : Shared} {Q : Value → Shared → Prop} {c : Nat} {x y : Str} {t u : Tok} {k : Int} {v : Bool} (hit : Txt.item x k = ⟨#[c]⟩) (e : y.cps.toList.contains c = v) (h : Q (.bool v) s) : wpAny (model prog w) A (compareOp .In (.str (Txt.item x k) t) (.str y u)) Q E s := by
  rw [hit]
  exact in_ch e h
theorem t3_end {g h2 : Heap} {L rl : Addr} {s₁ : Shared} {tk2 rn' i : Nat} {m2 : Str → Option Value} {W : Nat → Bool} {x : List Nat} {tx : Tok} {own rest : List (Addr × Obj)} {o : Obj} {rv' : List Value} {Qr : Value → Shared → Prop} {Qb : Shared → Prop}
  (F : Fr g L h2 m2) (N : News g L h2 ((rl, listOf rv'.toArray rn') :: rest ++ own)) (h0 : m2 (Str.ofString "row") = some (.ref rl)) (h1 : m2 (Str.ofString "text") = some (.str (S x) tx))
  (hS : StrsAre rv' ((toksOf W (x.take (i + 1))).map S)) (hl : rv'.length ≤ i + 1) :
  LoopStep3 g L own ((rl, o) :: rest) (J3 W x tx rl rest (i + 1)) s₁ Qr Qb .next { s₁ with heap := h2, toks := tk2 } :=
  LoopStep2.intro F (news_rot2 (l1 := (rl, listOf rv'.toArray rn') :: rest) N) rfl ⟨rv', rn', rfl, h0, h1, hS, hl⟩
end
end Mine
local macro_rules | `(tactic| walk_at "compareOp In str str") => `(tactic| (k_here; (with_reducible show wpAny _ _ (compareOp CmpOp.In (Value.str (Txt.item _ _) _) _) _ _ _); k_dflt (refine' Mine.in_item ?hit ?e ?_; (case hit => assumption); (case e => with_reducible assumption))))
local macro_rules | `(tactic| walk_at "inplaceOp Add str str") => `(tactic| (k_here; (try dsimp only); (with_reducible show wpAny _ _ (inplaceOp Operator.Add (Value.str (Mine.S _) _) (Value.str (Str.mk #[_]) _)) _ _ _); (with_reducible refine' Mine.add_S ?l ?_); (case l => omega); intro t' k'; (try dsimp only)))
namespace Mine
section
variable {w : World} {A₀ : Around} {base h₀ : Heap} {outer : List Env} {L : Addr} {m mg mb : Str → Option Value} {loose : List Str} {mean : ExcName → Option Value} {s : Shared} {Q E : Value → Shared → Prop} {p : Program}
  {hdl : Option Value} {d u : Nat} {gs : Option (List Code)} {rest : List (Addr × Obj)} {ns : List (Str × NameKind)} {ig ic : Bool} {mo : List (Str × Const)} {gl bi : Addr} {cs : List (Str × Addr)} {qn : Str} {fo : Option Addr} {cdv : Value}
theorem tok3 {x : List Nat} {b : Bool} {tx : Tok}
  (B : Below A₀ base outer h₀) (F : Fr h₀ L s.heap m) (X : (hd.heap_1 w.params).In h₀) (T : Top p loose mean mg mb h₀) (hdp : d < 900) (hun : u < 9000)
  (hx : x.length ≤ 400) (hA : ∀ c ∈ x, A7 c)
  (N : News h₀ L s.heap rest)
  (hQ : ∀ h' rl rv rn k, Fr h₀ L h' m → News h₀ L h' ((rl, listOf (rv : List Value).toArray rn) :: rest) → (∀ p ∈ rest, p.1 < rl) → StrsAre rv ((toksOf (fun c => (WC b).cps.toList.contains c) x).map S) → Q (.ref rl) { s with heap := h', toks := k })
  : wpAny (model prog w) (ar none d (fenv ns ig ic mo gl cs qn fo cdv bi L :: outer) gs u) (call (.ref 740) [.str (S x) tx]) Q E s := by
  refine wpAny_call ?_
  k_enter
  (repeat' (first | (k_unfold; (try dsimp only)) | ((fail_if_success (with_reducible show wpAny _ _ (exec (Stmt.For _ _ _ _ _) _) _ _ _)); walk1)))
  rename Fr _ _ _ _ => F1
  rename News _ _ _ _ => N1
  rename ∀ p ∈ rest, _ => ho
  obtain ⟨m1, rl, ho, N1, F1⟩ := tk_gen F1 (if_pos rfl) ((if_neg (by decide +kernel)).trans rfl) N1 ho
  refine For_pair3F F1 rfl rfl rfl rfl ?_ (fun _ => rfl) (by passes_own)
  dsimp only [tkPs] at F1
  (repeat' (first | (k_unfold; (try dsimp only)) | ((fail_if_success (with_reducible show wpAny _ _ (call (Value.type "enumerate") _) _ _ _)); walk1)))
  refine call_enum_str rfl F1 N1 ?_
  intro h' e F' N' PS
  refine (PS _ rfl) _ _ _ _ (J3 (fun c => (WC b).cps.toList.contains c) x tx rl rest) ?_ ?_ ?_
  · refine ⟨[], 0, rfl, by simp only [kstB, if_true], by simp only [kstB, tne_tr, if_true, if_false], ?_, Nat.le_refl _⟩
    exact .nil
  · rintro i a t v m₁ nx s₁ own ⟨h, tk, rfl⟩ ha hv ⟨rv, rn, rfl, f0, f1, hS, hl⟩ hadr hown F2 N2
    obtain ⟨tv, rfl⟩ := ItemKind.str_is hv
    have ⟨c, hc, hac⟩ : ∃ c, x[i]? = some c ∧ a = ⟨#[c]⟩ := by
      unfold signs at ha
      rw [List.getElem?_map] at ha
      have e : (S x).cps.toList = x := rfl
      rw [e] at ha
      cases hq : x[i]? with
      | none => rw [hq] at ha; cases ha
      | some c => rw [hq] at ha; exact ⟨c, rfl, (Option.some.inj ha).symm⟩
    subst hac
    have hlt : i < x.length := (List.getElem?_eq_some_iff.mp hc).1
    have hA7 := hA c (List.mem_of_getElem? hc)
    have F3 := kst_into (ps := tkPs rl x tx) F2 (by
      intro p hp
      simp only [tkPs, List.mem_cons, List.not_mem_nil, or_false] at hp
      rcases hp with rfl | rfl <;> assumption)
    have N3 := news_rot2 N2
    dsimp only [tkPs] at F3
    have hoff : ∀ p ∈ rest ++ own, p.1 ≠ rl := by
      intro p hp
      rcases List.mem_append.mp hp with hp | hp
      · exact Nat.ne_of_lt (ho p hp)
      · exact hown p hp _ (.head _)
    clear F2 N2 PS hQ
    have hab := a7_ab b c hA7
    have hws := a7_ws c hA7
    have hlen : rv.length ≤ 400 := by omega
    cases i with
    | zero =>
      have hb0 : (tfold (fun c => (WC b).cps.toList.contains c) ⟨[], false⟩ (x.take 0)).bf = false := rfl
      cases hW : (WC b).cps.toList.contains c with
      | true =>
        rw [hW] at hab
        have hs := a7_no b c hA7 hW
        rw [hs] at hws
        k_steps
        (rename News _ _ _ _ => N8; rw [List.push_toArray] at N8)
        (refine' t3_end ?F ?N ?h0 ?h1 _ _; (case F => assumption); (case N => assumption); (case h0 => (simp only [kstB, tne_tr, tne_rs, tne_rk, tne_ts, tne_tk, if_true, if_false]; try rfl)); (case h1 => (simp only [kstB, tne_tr, tne_rs, tne_rk, tne_ts, tne_tk, if_true, if_false]; try rfl)))
        · exact t3_new hc hS (fun _ => hb0) (fun h => absurd hW (by rw [h]; decide))
        · rw [List.length_append]; simp only [List.length_singleton]; omega
      | false =>
        rw [hW] at hab
        cases hs : isWs c with
        | true =>
          rw [hs] at hws
          k_steps
          (refine' t3_end ?F ?N ?h0 ?h1 _ _; (case F => assumption); (case N => assumption); (case h0 => (simp only [kstB, tne_tr, tne_rs, tne_rk, tne_ts, tne_tk, if_true, if_false]; try rfl)); (case h1 => (simp only [kstB, tne_tr, tne_rs, tne_rk, tne_ts, tne_tk, if_true, if_false]; try rfl)))
          · exact t3_ws hc hS hW hs
          · omega
        | false =>
          rw [hs] at hws
          k_steps
          (rename News _ _ _ _ => N8; rw [List.push_toArray] at N8)
          (refine' t3_end ?F ?N ?h0 ?h1 _ _; (case F => assumption); (case N => assumption); (case h0 => (simp only [kstB, tne_tr, tne_rs, tne_rk, tne_ts, tne_tk, if_true, if_false]; try rfl)); (case h1 => (simp only [kstB, tne_tr, tne_rs, tne_rk, tne_ts, tne_tk, if_true, if_false]; try rfl)))
          · exact t3_new hc hS (fun _ => hb0) (fun _ => hs)
          · rw [List.length_append]; simp only [List.length_singleton]; omega
    | succ j =>
      have ⟨c0, hc0⟩ : ∃ c0, x[j]? = some c0 := ⟨_, List.getElem?_eq_getElem (by omega)⟩
      have hit := item_at hc0
      have hbj := take_bf (W := fun c => (WC b).cps.toList.contains c) hc0
      have hab0 := a7_ab b c0 (hA c0 (List.mem_of_getElem? hc0))
      have hxl := S_length' x
      cases hW : (WC b).cps.toList.contains c with
      | true =>
        rw [hW] at hab
        have hs := a7_no b c hA7 hW
        rw [hs] at hws
        cases hW0 : (WC b).cps.toList.contains c0 with
        | true =>
          rw [hW0] at hab0
          obtain ⟨us, l, t1, rfl, hll, hI2⟩ := t3_last hc hc0 hW0 hS
          (repeat' (first | (k_unfold; (try dsimp only)) | ((fail_if_success (with_reducible show wpAny _ _ (getItem _ _) _ _ _)); walk1)))
          dsimp only
          refine' gs_get (us := us) (ga := rl) N3 (List.Mem.head _) ?_
          (repeat' (first | (k_unfold; (try dsimp only)) | ((fail_if_success (with_reducible show wpAny _ _ (setItem _ _ _) _ _ _)); walk1)))
          refine' gs_set (us := us) (ga := rl) F3 N3 (Upd.head hoff) ?_
          intro h6 F7 N7
          clear F3 N3
          k_steps
          (refine' t3_end ?F ?N ?h0 ?h1 _ _; (case F => assumption); (case N => assumption); (case h0 => (simp only [kstB, tne_tr, tne_rs, tne_rk, tne_ts, tne_tk, if_true, if_false]; try rfl)); (case h1 => (simp only [kstB, tne_tr, tne_rs, tne_rk, tne_ts, tne_tk, if_true, if_false]; try rfl)))
          · exact hI2 hW _
          · simp only [List.length_append, List.length_singleton] at hl ⊢; omega
        | false =>
          rw [hW0] at hab0
          k_steps
          (rename News _ _ _ _ => N8; rw [List.push_toArray] at N8)
          (refine' t3_end ?F ?N ?h0 ?h1 _ _; (case F => assumption); (case N => assumption); (case h0 => (simp only [kstB, tne_tr, tne_rs, tne_rk, tne_ts, tne_tk, if_true, if_false]; try rfl)); (case h1 => (simp only [kstB, tne_tr, tne_rs, tne_rk, tne_ts, tne_tk, if_true, if_false]; try rfl)))
          · exact t3_new hc hS (fun _ => hbj.trans hW0) (fun h => absurd hW (by rw [h]; decide))
          · rw [List.length_append]; simp only [List.length_singleton]; omega
      | false =>
        rw [hW] at hab
        cases hs : isWs c with
        | true =>
          rw [hs] at hws
          k_steps
          (refine' t3_end ?F ?N ?h0 ?h1 _ _; (case F => assumption); (case N => assumption); (case h0 => (simp only [kstB, tne_tr, tne_rs, tne_rk, tne_ts, tne_tk, if_true, if_false]; try rfl)); (case h1 => (simp only [kstB, tne_tr, tne_rs, tne_rk, tne_ts, tne_tk, if_true, if_false]; try rfl)))
          · exact t3_ws hc hS hW hs
          · omega
        | false =>
          rw [hs] at hws
          k_steps
          (rename News _ _ _ _ => N8; rw [List.push_toArray] at N8)
          (refine' t3_end ?F ?N ?h0 ?h1 _ _; (case F => assumption); (case N => assumption); (case h0 => (simp only [kstB, tne_tr, tne_rs, tne_rk, tne_ts, tne_tk, if_true, if_false]; try rfl)); (case h1 => (simp only [kstB, tne_tr, tne_rs, tne_rk, tne_ts, tne_tk, if_true, if_false]; try rfl)))
          · exact t3_new hc hS (fun h => absurd hW (by rw [h]; decide)) (fun _ => hs)
          · rw [List.length_append]; simp only [List.length_singleton]; omega
  · rintro h2 tk2 m2 nx F2 N2 hadr ⟨rv, rn, rfl, f0, f1, hS, hl⟩
    dsimp only
    have F3 := tk_fin F2 f0 f1
    clear F2
    dsimp only [tkPs] at F3
    k_steps
    exact hQ _ rl rv rn _ (by assumption) (by assumption) ho (by
      have e : (signs (S x)).length = x.length := by simp [signs, S]
      rw [e, List.take_length] at hS
      exact hS)
end
end Mine

end
section
namespace Mine
section
variable {w : World} {A₀ : Around} {base h₀ : Heap} {outer : List Env} {L : Addr} {m mg mb : Str → Option Value} {loose : List Str} {mean : ExcName → Option Value} {s : Shared} {Q E : Value → Shared → Prop} {p : Program}
  {hdl : Option Value} {d u : Nat} {gs : Option (List Code)} {rest : List (Addr × Obj)} {ns : List (Str × NameKind)} {ig ic : Bool} {mo : List (Str × Const)} {gl bi : Addr} {cs : List (Str × Addr)} {qn : Str} {fo : Option Addr} {cdv : Value}
abbrev lxLed (P : Params) (kt : IoT) (T1 : LxT) (x : List Nat) (b : Bool) (ev f : Value) (io iod pb lx dx fs : Addr) (fn : Int) (c : LS) : List (Addr × Obj) :=
  [(io, instObj 587 iod), (iod, ioD P kt (S x) c.pos c.tp), (pb, dqO c.pbs c.pn), (lx, instObj 722 dx), (dx, lexD P T1 b false ev (Str.ofString "#") (WC b) pb fs io f c.sv c.ln c.tl c.tok c.tt), (fs, dqO [] fn)]
theorem all_cons {a : Addr} {p : Addr × Obj} {l : List (Addr × Obj)} (h : @Ne Nat p.1 a) (hl : ∀ q ∈ l, q.1 ≠ a) : ∀ q ∈ p :: l, q.1 ≠ a := by
  intro q hq
  rcases List.mem_cons.mp hq with rfl | hq
  · exact h
  · exact hl q hq
def LxR (x : List Nat) (b : Bool) (c : LS) (row : List Dat) : Prop :=
  ∃ st rem pd, SV st c.sv ∧ c.tok = S [] ∧ (S x).cps.toList.drop c.pos = rem ∧ st ≠ .word ∧ (st = .fin → rem = []) ∧ DatAll [] c.pbs pd ∧ row = pd ++ (toksOf (fun c => (WC b).cps.toList.contains c) rem).map (fun t => Dat.str (S t))
theorem wok3 (b : Bool) : WOk (fun c => (WC b).cps.toList.contains c) := ⟨by
  intro c h
  have h1 : ∀ b : Bool, ∀ c ∈ (Str.ofString " \t\x0d\n").cps.toList, (WC b).cps.toList.contains c = false := by decide +kernel
  refine h1 b c ?_
  unfold isWs at h
  simpa using h⟩
theorem lxr0 {x : List Nat} {b : Bool} {ts tl tt t1 : Tok} : LxR x b ⟨.str (Str.ofString " ") ts, 1, tl, Str.ofString "", tt, 0, t1, [], 0⟩ ((toksOf (fun c => (WC b).cps.toList.contains c) x).map (fun t => Dat.str (S t))) :=
  ⟨.white, x, [], ⟨_, rfl⟩, S_nil, by simp [S], by simp, (fun h => by cases h), .nil, rfl⟩
theorem rt_fin3 {b : Bool} {W : Nat → Bool} {ln : Int} : rt b W .fin [] [] ln = ⟨[], .fin, [], ln, none⟩ := by rw [rt]
theorem a7_ok : ∀ c ∈ [97, 98, 32, 61, 10, 43, 9], isCm c = false ∧ (Str.ofString "'\"").cps.toList.contains c = false ∧ (Str.ofString "\\").cps.toList.contains c = false := by decide +kernel
/-- what get_token gives: the row's head, or the end -/
def GotR (ev : Value) (row : List Dat) (v : Value) (row' : List Dat) : Prop := match row with
  | [] => v = ev ∧ row' = []
  | d :: r => DatIn [] v d ∧ row' = r
theorem lx3_get {lx dx io iod pb fs : Addr} {x : List Nat} {kt : IoT} {T1 : LxT} {b : Bool} {ev f : Value} {fn : Int} {c : LS} {row : List Dat}
  (B : Below A₀ base outer h₀) (F : Fr h₀ L s.heap m) (X : (hd.heap_1 w.params).In h₀) (T : Top p loose mean mg mb h₀) (hdp : d < 800) (hun : u < 8000)
  (hx : x.length ≤ 400) (hA : ∀ c ∈ x, A7 c) (h1 : @LT.lt Nat _ dx lx) (h2 : @LT.lt Nat _ lx iod) (h3 : @LT.lt Nat _ iod io) (h4 : @LT.lt Nat _ io pb) (h5 : @LT.lt Nat _ pb fs)
  (hr1 : ∀ p ∈ rest, p.1 ≠ iod) (hr2 : ∀ p ∈ rest, p.1 ≠ dx) (hr3 : ∀ p ∈ rest, p.1 ≠ pb) (hP : LxR x b c row) (hi : c.pbs.length ≤ 800000) (hev : EV b ev)
  (N : News h₀ L s.heap (lxLed w.params kt T1 x b ev f io iod pb lx dx fs fn c ++ rest))
  (hQ : ∀ h' v c' row' k, Fr h₀ L h' m → News h₀ L h' (lxLed w.params kt T1 x b ev f io iod pb lx dx fs fn c' ++ rest) → LxR x b c' row' → GotR ev row v row' → c'.pbs.length ≤ c.pbs.length + 1 → Q v { s with heap := h', toks := k })
  : wpAny (model prog w) (ar hdl d (fenv ns ig ic mo gl cs qn fo cdv bi L :: outer) gs u) (call (.ref 683) [.ref lx]) Q E s := by
  obtain ⟨sv, ln, tlx, tok, ttx, pos, tp, pbs, pn⟩ := c
  obtain ⟨st, rem, pd, p1, p2, p3, p4, p5, p6, p7⟩ := hP
  dsimp only at p1 p2 p3 p6 hi
  have hrem : ∀ c ∈ rem, A7 c := by
    intro a ha
    rw [← p3] at ha
    have := List.mem_of_mem_drop ha
    exact hA a (by simpa [S] using this)
  cases p6 with
  | nil =>
    refine get_tok0 B F X T hdp hun (by simp [S, Str.length]; omega) h1 h2 h3 h4 h5 (all_cons ?_ hr1) (all_cons ?_ hr2) (all_cons ?_ hr3) p1 p3 p4 p5 (fun a ha => (a7_ok a (hrem a ha)).2) p2 hev N ?_
    · exact Nat.ne_of_gt (Nat.lt_trans h3 (Nat.lt_trans h4 h5))
    · exact Nat.ne_of_gt (Nat.lt_trans h1 (Nat.lt_trans h2 (Nat.lt_trans h3 (Nat.lt_trans h4 h5))))
    · exact Nat.ne_of_gt h5
    · intro h' v' sv' tl' tk' tt' pos' t2' pbs' pn' k' F' N' e1' e2' e3' e4' e5'
      generalize hg : rt b (fun c => (WC b).cps.toList.contains c) st [] rem ln = r at *
      have key : ∃ row', LxR x b ⟨sv', r.ln, tl', tk', tt', pos', t2', pbs', pn'⟩ row' ∧ GotR ev row v' row' ∧ pbs'.length ≤ 1 := by
        cases st with
        | word => exact absurd rfl p4
        | fin =>
          have hr0 := p5 rfl
          have hre : r = ⟨[], .fin, [], ln, none⟩ := by rw [← hg, hr0, rt_fin3]
          subst hre
          have e5 : pbs' = [] := e5'
          subst e5
          refine ⟨[], ⟨.fin, [], [], e2', e1', e3', by simp, fun _ => rfl, .nil, rfl⟩, ?_, by simp⟩
          rw [p7, hr0]
          exact ⟨by simpa [GV] using e4', rfl⟩
        | white =>
          have w := tk_white (b := b) (wok3 b) rem ln (fun a ha => (a7_ok a (hrem a ha)).1)
          rw [hg] at w
          have hst : r.st ≠ .word ∧ (r.st = .fin → r.rem = []) := by
            rcases w.st with e | ⟨e, e'⟩
            · rw [e]; exact ⟨by simp, fun h => by cases h⟩
            · rw [e]; exact ⟨by simp, fun _ => e'⟩
          by_cases ht : r.tok = []
          · obtain ⟨q1, q2, q3, q4⟩ := w.nil ht
            rw [ht] at e4'
            rw [q3] at e5'
            have e5 : pbs' = [] := e5'
            subst e5
            refine ⟨[], ⟨r.st, r.rem, [], e2', e1', e3', hst.1, hst.2, .nil, ?_⟩, ?_, by simp⟩
            · rw [q2]; rfl
            · rw [p7, q4]
              exact ⟨by simpa [GV] using e4', rfl⟩
          · have hne : r.tok.isEmpty = false := by cases h : r.tok with
              | nil => exact absurd h ht
              | cons => rfl
            unfold GV at e4'
            rw [hne] at e4'
            simp only [Bool.false_eq_true, if_false] at e4'
            obtain ⟨t, rfl⟩ := e4'
            have ho := w.out ht
            cases hov : r.over with
            | none =>
              rw [hov] at e5' ho
              have e5 : pbs' = [] := e5'
              subst e5
              refine ⟨(toksOf (fun c => (WC b).cps.toList.contains c) r.rem).map (fun t => Dat.str (S t)), ⟨r.st, r.rem, [], e2', e1', e3', hst.1, hst.2, .nil, rfl⟩, ?_, by simp⟩
              rw [p7, ho]
              exact ⟨.str _ _, by simp⟩
            | some o =>
              rw [hov] at e5' ho
              obtain ⟨t2, rfl⟩ := e5'
              refine ⟨Dat.str (S [o]) :: (toksOf (fun c => (WC b).cps.toList.contains c) r.rem).map (fun t => Dat.str (S t)), ⟨r.st, r.rem, [Dat.str (S [o])], e2', e1', e3', hst.1, hst.2, .cons (.str _ _) .nil, rfl⟩, ?_, by simp⟩
              rw [p7, ho]
              exact ⟨.str _ _, by simp⟩
      obtain ⟨row', k1, k2, k3⟩ := key
      exact hQ h' v' ⟨sv', r.ln, tl', tk', tt', pos', t2', pbs', pn'⟩ row' k' F' N' k1 k2 (by simpa using k3)
  | cons hv hr =>
    rename_i v vs d ds
    have N' : News h₀ L s.heap ((pb, dqO (v :: vs) pn) :: (lx, instObj 722 dx) :: (dx, lexD w.params T1 b false ev (Str.ofString "#") (WC b) pb fs io f sv ln tlx tok ttx) :: ([(fs, dqO [] fn), (io, instObj 587 iod), (iod, ioD w.params kt (S x) pos tp)] ++ rest)) := by
      intro p hp
      refine N p ?_
      simp only [List.mem_cons, List.mem_append, List.not_mem_nil, or_false] at hp ⊢
      rcases hp with h | h | h | (h | h | h) | h <;> simp [h]
    refine get_tok1 B F X T (by omega) (by omega) h1 (Nat.lt_trans h2 (Nat.lt_trans h3 h4)) ?_ (by simp at hi; omega) N' ?_
    · exact all_cons (Nat.ne_of_gt h5) (all_cons (Nat.ne_of_lt h4) (all_cons (Nat.ne_of_lt (Nat.lt_trans h3 h4)) hr3))
    · intro h' k F' N2
      refine hQ h' v ⟨sv, ln, tlx, tok, ttx, pos, tp, vs, pn + 1⟩ (ds ++ (toksOf (fun c => (WC b).cps.toList.contains c) rem).map (fun t => Dat.str (S t))) k F' ?_ ⟨st, rem, ds, p1, p2, p3, p4, p5, hr, rfl⟩ ?_ (by simp; omega)
      · intro p hp
        refine N2 p ?_
        simp only [List.mem_cons, List.mem_append, List.not_mem_nil, or_false] at hp ⊢
        rcases hp with (h | h | h | h | h | h) | h <;> simp [h]
      · rw [p7]
        exact ⟨hv, rfl⟩
theorem lx_push {lx dx io iod pb fs : Addr} {x : List Nat} {kt : IoT} {T1 : LxT} {b : Bool} {ev f v : Value} {fn : Int} {c : LS}
  (B : Below A₀ base outer h₀) (F : Fr h₀ L s.heap m) (X : (hd.heap_1 w.params).In h₀) (T : Top p loose mean mg mb h₀) (hdp : d < 900) (hun : u < 9000)
  (h1 : @LT.lt Nat _ dx lx) (h2 : @LT.lt Nat _ lx iod) (h3 : @LT.lt Nat _ iod io) (h4 : @LT.lt Nat _ io pb) (h5 : @LT.lt Nat _ pb fs)
  (hr3 : ∀ p ∈ rest, p.1 ≠ pb) (hi : c.pbs.length ≤ 800000)
  (N : News h₀ L s.heap (lxLed w.params kt T1 x b ev f io iod pb lx dx fs fn c ++ rest))
  (hQ : ∀ h' k, Fr h₀ L h' m → News h₀ L h' (lxLed w.params kt T1 x b ev f io iod pb lx dx fs fn ⟨c.sv, c.ln, c.tl, c.tok, c.tt, c.pos, c.tp, v :: c.pbs, c.pn + 1⟩ ++ rest) → Q .none { s with heap := h', toks := k })
  : wpAny (model prog w) (ar hdl d (fenv ns ig ic mo gl cs qn fo cdv bi L :: outer) gs u) (call (.ref 661) [.ref lx, v]) Q E s := by
  obtain ⟨sv, ln, tlx, tok, ttx, pos, tp, pbs, pn⟩ := c
  dsimp only at hi
  have N' : News h₀ L s.heap ((pb, dqO pbs pn) :: (lx, instObj 722 dx) :: (dx, lexD w.params T1 b false ev (Str.ofString "#") (WC b) pb fs io f sv ln tlx tok ttx) :: ([(fs, dqO [] fn), (io, instObj 587 iod), (iod, ioD w.params kt (S x) pos tp)] ++ rest)) := by
    intro p hp
    refine N p ?_
    simp only [List.mem_cons, List.mem_append, List.not_mem_nil, or_false, false_or] at hp ⊢
    rcases hp with h | h | h | (h | h | h) | h <;> simp [h]
  refine push_tok B F X T hdp hun h1 (Nat.lt_trans h2 (Nat.lt_trans h3 h4)) ?_ (by omega) N' ?_
  · exact all_cons (Nat.ne_of_gt h5) (all_cons (Nat.ne_of_lt h4) (all_cons (Nat.ne_of_lt (Nat.lt_trans h3 h4)) hr3))
  · intro h' k F' N2
    refine hQ h' k F' ?_
    intro p hp
    refine N2 p ?_
    simp only [List.mem_cons, List.mem_append, List.not_mem_nil, or_false, false_or] at hp ⊢
    rcases hp with (h | h | h | h | h | h) | h <;> simp [h]
end
end Mine

end
section
local macro_rules | `(tactic| walk_at "execs nil") => `(tactic| (with_reducible refine wpAny_execs_nil ?_))
local macro_rules | `(tactic| walk_at "exec If") => `(tactic| ((try k_fold); with_reducible refine wpAny_If ?_))
local macro_rules | `(tactic| walk_at "ite") => `(tactic| first | with_reducible refine Mine.ite_t ?_ | with_reducible refine Mine.ite_f ?_)
local macro_rules | `(tactic| walk_at "execs cons") => `(tactic| ((try dsimp only); with_reducible refine wpAny_execs_cons ?_))
local macro_rules | `(tactic| k_handed) => `(tactic| with_reducible assumption)
namespace Mine
section
variable {w : World} {A₀ : Around} {base h₀ : Heap} {outer : List Env} {L : Addr} {m mg mb : Str → Option Value} {loose : List Str} {mean : ExcName → Option Value} {s : Shared} {Q E : Value → Shared → Prop} {p : Program}
  {hdl : Option Value} {d u : Nat} {gs : Option (List Code)} {rest : List (Addr × Obj)} {ns : List (Str × NameKind)} {ig ic : Bool} {mo : List (Str × Const)} {gl bi : Addr} {cs : List (Str × Addr)} {qn : Str} {fo : Option Addr} {cdv : Value}
def isE : Bool → Dat → Bool
  | true, .none => true
  | false, .str y => y.cps.toList.isEmpty
  | _, _ => false
def DNS (d : Dat) : Prop := d = .none ∨ ∃ y, d = .str y
theorem eq_isE {w : World} {A : Around} {E : Value → Shared → Prop} {s : Shared} {Q : Value → Shared → Prop} {b : Bool} {d : Dat} {v ev : Value} {l : List (Addr × Obj)} (hv : DatIn l v d) (hd : DNS d) (hE : EV b ev) (h : Q (.bool (isE b d)) s) : wpAny (model prog w) A (compareOp .Eq v ev) Q E s := by
  unfold EV at hE
  rcases hd with rfl | ⟨y, rfl⟩
  · cases hv
    cases b with
    | true => simp only [if_true] at hE; subst hE; exact PySem.EqNone.eq_none_none h
    | false => simp only [Bool.false_eq_true, if_false] at hE; obtain ⟨t, rfl⟩ := hE; exact PySem.EqNone.eq_none_str h
  · cases hv
    cases b with
    | true => simp only [if_true] at hE; subst hE; exact PySem.EqNone.eq_str_none h
    | false =>
      simp only [Bool.false_eq_true, if_false] at hE
      obtain ⟨t, rfl⟩ := hE
      refine P.eq_str ?_
      have e : (y.cps.toList == (Str.ofString "").cps.toList) = isE false (.str y) := by
        rw [S_nil]
        cases hy : y.cps.toList with
        | nil => simp [isE, S, hy]
        | cons a r => simp [isE, S, hy]
      rw [e]; exact h
theorem eq_evev {w : World} {A : Around} {E : Value → Shared → Prop} {s : Shared} {Q : Value → Shared → Prop} {b : Bool} {v ev : Value} (hv : EV b v) (hE : EV b ev) (h : Q (.bool true) s) : wpAny (model prog w) A (compareOp .Eq v ev) Q E s := by
  unfold EV at hE hv
  cases b with
  | true => simp only [if_true] at hE hv; subst hE hv; exact PySem.EqNone.eq_none_none h
  | false =>
    simp only [Bool.false_eq_true, if_false] at hE hv
    obtain ⟨t, rfl⟩ := hE
    obtain ⟨t, rfl⟩ := hv
    exact P.eq_str (by simpa using h)
theorem nx {lx dx io iod pb fs : Addr} {x : List Nat} {kt : IoT} {T1 : LxT} {b : Bool} {ev f : Value} {fn : Int} {c : LS} {row : List Dat}
  (B : Below A₀ base outer h₀) (F : Fr h₀ L s.heap m) (X : (hd.heap_1 w.params).In h₀) (T : Top p loose mean mg mb h₀) (hdp : d < 700) (hun : u < 7000)
  (hx : x.length ≤ 400) (hA : ∀ c ∈ x, A7 c) (h1 : @LT.lt Nat _ dx lx) (h2 : @LT.lt Nat _ lx iod) (h3 : @LT.lt Nat _ iod io) (h4 : @LT.lt Nat _ io pb) (h5 : @LT.lt Nat _ pb fs)
  (hr1 : ∀ p ∈ rest, p.1 ≠ iod) (hr2 : ∀ p ∈ rest, p.1 ≠ dx) (hr3 : ∀ p ∈ rest, p.1 ≠ pb) (hP : LxR x b c row) (hi : c.pbs.length ≤ 800000) (hev : EV b ev) (hrow : ∀ d ∈ row, DNS d)
  (N : News h₀ L s.heap (lxLed w.params kt T1 x b ev f io iod pb lx dx fs fn c ++ rest))
  (hQ : ∀ h' v c' d row' k, Fr h₀ L h' m → News h₀ L h' (lxLed w.params kt T1 x b ev f io iod pb lx dx fs fn c' ++ rest) → LxR x b c' row' → row = d :: row' → DatIn [] v d → isE b d = false → c'.pbs.length ≤ c.pbs.length + 1 → Q v { s with heap := h', toks := k })
  (hE : ∀ h' e t c' row' k g', RaisedK base (fenv ns ig ic mo gl cs qn fo cdv bi L :: outer) e (.type "StopIteration") t [] (lxLed w.params kt T1 x b ev f io iod pb lx dx fs fn c' ++ rest) h' → Fr h₀ L g' m → g'.UpToSlots h' → LxR x b c' row' → ((row = [] ∧ row' = []) ∨ ∃ d, row = d :: row' ∧ isE b d = true) → c'.pbs.length ≤ c.pbs.length + 1 → E (.ref e) { s with heap := h', toks := k })
  : wpAny (model prog w) (ar none d (fenv ns ig ic mo gl cs qn fo cdv bi L :: outer) gs u) (call (.ref 719) [.ref lx]) Q E s := by
  refine wpAny_call ?_
  k_enter
  (repeat' (first | (k_unfold; (try dsimp only)) | ((fail_if_success (with_reducible show wpAny _ _ (call (Value.ref 683) _) _ _ _)); walk1)))
  rename Fr _ _ _ _ => F1
  rename News _ _ _ _ => N1
  refine' lx3_get ?k1 F1 ?k3 ?k4 ?k5 ?k6 hx hA h1 h2 h3 h4 h5 hr1 hr2 hr3 hP hi hev N1 ?_
  case k1 => k_asm
  case k3 => k_asm
  case k4 => k_asm
  case k5 => k_room
  case k6 => k_units
  intro h' v c' row' k' F' N' hP' hG hl
  have hevh := ev_handed hev
  have N2 := N'
  dsimp only [lxLed, List.cons_append, List.nil_append] at N2
  (repeat' (first | (k_unfold; (try dsimp only)) | ((fail_if_success (with_reducible show wpAny _ _ (compareOp _ _ _) _ _ _)); walk1)))
  cases row with
  | nil =>
    obtain ⟨rfl, rfl⟩ := hG
    refine eq_evev hev hev ?_
    k_steps
    exact hE _ _ _ c' [] _ _ (by assumption) (by assumption) (by assumption) hP' (.inl ⟨rfl, rfl⟩) hl
  | cons d r =>
    obtain ⟨hG, rfl⟩ := hG
    refine eq_isE hG (hrow d (.head _)) hev ?_
    cases hE' : isE b d with
    | true =>
      k_steps
      exact hE _ _ _ c' _ _ _ (by assumption) (by assumption) (by assumption) hP' (.inr ⟨d, rfl, hE'⟩) hl
    | false =>
      k_steps
      exact hQ _ v c' d _ _ (by assumption) (by assumption) hP' rfl hG hE' hl
end
end Mine

end
section
namespace Mine
section
variable {prog' : Program} {w : World} {A : Around} {h₀ : Heap} {L : Addr} {m : Str → Option Value} {s : Shared} {σ : Type} {I S : Addr} {res : Value} {R : Result → Shared → Prop}
theorem own_loop (Led : σ → List (Addr × Obj)) (P Fin : σ → List Value → Prop) (μ : σ → Nat)
    (hS : ∀ c, ∀ p ∈ Led c, p.1 ≠ S)
    (next : ∀ c ys k h tk (E' : Value → Shared → Prop), P c ys → ys.length + μ c ≤ 100000 → Fr h₀ L h m → News h₀ L h ((S, listOf ys.toArray k) :: Led c) →
      wpAny (model prog' w) A.in1 (pyNext (.ref I)) (fun o s' => ∃ c' h' tk', s' = { s with heap := h', toks := tk' } ∧ Fr h₀ L h' m ∧ News h₀ L h' ((S, listOf ys.toArray k) :: Led c') ∧
        match o with | some v => P c' (ys ++ [v]) ∧ μ c' < μ c | none => Fin c' ys) E' { s with heap := h, toks := tk })
    (fin : ∀ c ys k h tk, Fin c ys → Fr h₀ L h m → News h₀ L h ((S, listOf ys.toArray k) :: Led c) → R (.ok (.ret res)) { s with heap := h, toks := tk }) :
    ∀ (n : Nat) (c : σ) (ys : List Value) (k : Nat) (h : Heap) (tk : Nat), μ c = n → ys.length + μ c ≤ 100000 → P c ys → Fr h₀ L h m → News h₀ L h ((S, listOf ys.toArray k) :: Led c) →
      codeAny (model prog' w) A (.builtin "list.extend.loop" ⟨[.ref S, .ref I, res], []⟩) R { s with heap := h, toks := tk } := by
  intro n
  induction n using Nat.strongRecOn with
  | ind n ih =>
    intro c ys k h tk hn hz hP hF N
    refine codeAny_builtin F.entry_extend_loop ?_
    rw [Around.under_plainId F.plain_extend_loop _]
    show wpAny _ A.in1 (pyNext (.ref I) >>= _) _ _ _
    refine wpAny_bind (wpAny_mono (next c ys k h tk _ hP hz hF N) (fun o s' hq => ?_) fun _ _ e => e)
    obtain ⟨c', h', tk', rfl, F', N', ho⟩ := hq
    cases o with
    | none => exact wpAny_pure (fin c' ys k h' tk' ho F' N')
    | some v =>
      obtain ⟨hP', hm⟩ := ho
      have z := N' (S, listOf ys.toArray k) (.head _)
      show wpAny _ A.in1 (updateSeq S (·.push v) >>= _) _ _ _
      refine wpAny_bind ?_
      have hsz : sizeLine ≥ 1000000 := by decide +kernel
      have ho' : Obj.mapSeq (·.push v) (listOf ys.toArray k) = listOf (ys ++ [v]).toArray (k + 1) := by
        simp [Obj.mapSeq, W.listOf]
      have U := news_upd (pre := []) F' N' (fun p hp => nomatch hp) (hS c') ho' rfl
      refine wpAny_updateSeq z.1 rfl (wpAny_pure ⟨plainId_quiet F.plain_extend_loop _, ?_⟩) (by rw [List.size_toArray]; omega) (by rw [Array.size_push, List.size_toArray]; omega)
      exact ih (μ c') (by omega) c' (ys ++ [v]) (k + 1) _ _ rfl (by rw [List.length_append, List.length_singleton]; omega) hP' U.1 U.2
variable {K : Frag} {C lx : Addr} {ox : Obj} {od : Option Obj}
theorem touch_obj (k : Nat) : ∃ k', Obj.mapSeq (·.pop) (Obj.mapSeq (·.push Value.none) (listOf #[] k)) = listOf #[] k' := ⟨_, by simp [Obj.mapSeq, W.listOf]; rfl⟩
theorem own_extend {k : Nat} {lg : List (Addr × Obj)} (X₀ : K.In h₀) (hF : Fr h₀ L s.heap m) (hN : News h₀ L s.heap ((S, listOf #[] k) :: lg)) (hS : ∀ p ∈ lg, p.1 ≠ S) (Ii : InstAt s.heap lx ox C od) (hSI : S ≠ lx) (hl : findIn K (.ref C) "__len__" = some none) (hh : findIn K (.ref C) "__length_hint__" = some none)
    (it : ∀ (Q E : Value → Shared → Prop), (∀ h' tk ox od, Fr h₀ L h' m → News h₀ L h' ((S, listOf #[] k) :: lg) → InstAt h' lx ox C od → Q (.ref lx) { s with heap := h', toks := tk }) → wpAny (model prog' w) A.in1 (pyIter (.ref lx)) Q E s)
    (h : ∀ h' tk k', Fr h₀ L h' m → News h₀ L h' ((S, listOf #[] k') :: lg) → codeAny (model prog' w) A (.builtin "list.extend.loop" ⟨[.ref S, .ref lx, res], []⟩) R { s with heap := h', toks := tk }) :
    wpAny (model prog' w) A.in1 (Builtin.List.listExtendWith (.ref S) (.ref lx) res)
      (fun fin s' => match fin with | .done f => R (.ok f) s' | .again c' => c'.quiet = true ∧ codeAny (model prog' w) A c' R s') (fun e s' => R (.error e) s') s := by
  unfold Builtin.List.listExtendWith
  refine wpAny_bind (Ii.type.here ?_)
  have h1 : Builtin.List.listSameRef (.ref S) (.ref lx) = false := by simp [Builtin.List.listSameRef, hSI]
  have h2 : (Value.ref C == Value.type "list") = false := rfl
  have h3 : (Value.ref C == Value.type "tuple") = false := rfl
  simp only [h1, h2, h3, Bool.or_false, Bool.false_eq_true, if_false]
  refine wpAny_bind (it _ _ fun h' tk ox' od' F' N' I' => ?_)
  refine wpAny_bind (wpAny_holding ?_)
  unfold Builtin.List.listLengthHint
  have X' := X₀.keeps F'.keep
  refine wpAny_bind (wpAny_bind (I'.type.here ((looks_findIn X' hl).here ?_)))
  show wpAny _ A.in1 (specialOf (Value.ref lx) (Str.ofString "__length_hint__") >>= _) _ _ _
  refine wpAny_bind (wpAny_bind (I'.type.here ((looks_findIn X' hh).here ?_)))
  refine wpAny_pure ?_
  show wpAny _ A.in1 (rule "list.extend.makes-room" >>= fun _ => Builtin.List.listTouch (.ref S) >>= fun _ =>
    again (.builtin "list.extend.loop" ⟨[.ref S, .ref lx, res], []⟩)) _ _ _
  refine wpAny_bind (wpAny_rule ?_)
  refine wpAny_bind ?_
  show wpAny _ A.in1 (updateSeq S (·.push .none) >>= fun _ => updateSeq S (·.pop)) _ _ _
  have z := N' (S, listOf #[] k) (.head _)
  refine wpAny_bind (wpAny_updateSeq z.1 rfl ?_)
  have U := news_upd (pre := []) F' N' (fun p hp => nomatch hp) hS (f := Obj.mapSeq (·.push Value.none)) rfl rfl
  have z2 := U.2 (S, _) (.head _)
  obtain ⟨k', hk⟩ := touch_obj k
  have U2 := news_upd (pre := []) U.1 U.2 (fun p hp => nomatch hp) hS hk rfl
  refine wpAny_updateSeq (hz := by seq_fits) z2.1 rfl ?_
  exact wpAny_pure ⟨plainId_quiet F.plain_extend_loop _, h _ _ k' U2.1 U2.2⟩
theorem own_list {lg : List (Addr × Obj)} {Q E : Value → Shared → Prop} (X₀ : K.In h₀) (hF : Fr h₀ L s.heap m) (hN : News h₀ L s.heap lg) (hl : findIn K (.ref C) "__len__" = some none) (hh : findIn K (.ref C) "__length_hint__" = some none) (hC : (lx, ox) ∈ lg)
    (hI : ∀ h, News h₀ L h lg → ∃ ox od, InstAt h lx ox C od)
    (it : ∀ S h tk (Q E : Value → Shared → Prop), (∀ p ∈ lg, p.1 ≠ S) → Fr h₀ L h m → News h₀ L h ((S, listOf #[] 0) :: lg) → (∀ h' tk, Fr h₀ L h' m → News h₀ L h' ((S, listOf #[] 0) :: lg) → Q (.ref lx) { s with heap := h', toks := tk }) → wpAny (model prog' w) A.in1.in1 (pyIter (.ref lx)) Q E { s with heap := h, toks := tk })
    (h : ∀ S h' tk k' (R : Result → Shared → Prop), (∀ p ∈ lg, p.1 < S) → Fr h₀ L h' m → News h₀ L h' ((S, listOf #[] k') :: lg) → (∀ s', Q (.ref S) s' → R (.ok (.ret .none)) s') → codeAny (model prog' w) A.in1 (.builtin "list.extend.loop" ⟨[.ref S, .ref lx, .none], []⟩) R { s with heap := h', toks := tk }) :
    wpAny (model prog' w) A (call (.type "list") [.ref lx]) Q E s := by
  have hlt : ∀ p ∈ lg, p.1 < s.heap.objs.size := fun p hp => Heap.lt_size (hN p hp).1
  have hne : ∀ p ∈ lg, p.1 ≠ s.heap.objs.size := fun p hp => Nat.ne_of_lt (hlt p hp)
  refine callType_codes (Q₁ := fun obj s₁ => obj = .ref s.heap.objs.size ∧ s₁ = { s with heap := s.heap.push { cls := .type "list", data := .seq #[] } }) F.called_list (F.typeCall_list_1 _) F.entry_list_init
    (code_list_new _ ⟨rfl, rfl⟩) fun obj s₁ h₁ => ?_
  obtain ⟨rfl, rfl⟩ := h₁
  have hSz : (s.heap.push { cls := .type "list", data := .seq #[] }).get? s.heap.objs.size = some { cls := .type "list", data := .seq #[] } := Heap.get?_push_size _ rfl
  have F1 : Fr h₀ L (s.heap.push { cls := .type "list", data := .seq #[] }) m := hF.push _
  have N1 : News h₀ L (s.heap.push { cls := .type "list", data := .seq #[] }) ((s.heap.objs.size, listOf #[] 0) :: lg) := hN.push hF _
  refine ⟨⟨_, hSz, rfl⟩, F.args_list_init_2 _ _, ?_⟩
  show wpAny _ A.in1.in1 (do let old ← Builtin.List.listItems (.ref s.heap.objs.size); Builtin.List.listUpdate (.ref s.heap.objs.size) (fun _ => #[]); letGo old.toList.reverse; Builtin.List.listExtendWith (.ref s.heap.objs.size) (.ref lx) .none) _ _ _
  refine wpAny_bind ?_
  unfold Builtin.List.listItems
  refine wpAny_bind (wpAny_seqItems hSz rfl (wpAny_pure ?_))
  show wpAny _ A.in1.in1 (updateSeq s.heap.objs.size (fun _ => #[]) >>= fun _ => letGo (#[] : Array Value).toList.reverse >>= fun _ => Builtin.List.listExtendWith (.ref s.heap.objs.size) (.ref lx) .none) _ _ _
  refine wpAny_bind (wpAny_updateSeq hSz rfl ?_)
  have U := news_upd (pre := []) F1 N1 (fun p hp => nomatch hp) hne (f := Obj.mapSeq (fun _ => (#[] : Array Value))) (o' := listOf #[] 0) rfl rfl
  refine wpAny_bind (wpAny_letGo ?_)
  have N2 : News h₀ L _ lg := fun p hp => U.2 p (.tail _ hp)
  obtain ⟨ox', od', I'⟩ := hI _ N2
  refine own_extend (A := A.in1) (s := { s with heap := _, toks := _ }) X₀ U.1 U.2 hne I' (fun e => hne _ hC e.symm) hl hh ?_ ?_
  · intro Q' E' hQ'
    refine it s.heap.objs.size _ _ Q' E' hne U.1 U.2 fun h' tk F' N' => ?_
    obtain ⟨ox'', od'', I''⟩ := hI h' fun p hp => N' p (.tail _ hp)
    exact hQ' h' tk ox'' od'' F' N' I''
  · intro h' tk k' F' N'
    exact h s.heap.objs.size h' tk k' _ hlt F' N' fun s' hq => ⟨rfl, hq⟩
end
end Mine

end
section
local macro_rules | `(tactic| walk_at "execs cons") => `(tactic| ((try dsimp only); with_reducible refine wpAny_execs_cons ?_))
namespace Mine
section
variable {w : World} {A₀ : Around} {base h₀ : Heap} {outer : List Env} {L : Addr} {m mg mb : Str → Option Value} {loose : List Str} {mean : ExcName → Option Value} {s : Shared} {Q E : Value → Shared → Prop} {p : Program}
  {hdl : Option Value} {d u : Nat} {gs : Option (List Code)} {rest : List (Addr × Obj)} {ns : List (Str × NameKind)} {ig ic : Bool} {mo : List (Str × Const)} {gl bi : Addr} {cs : List (Str × Addr)} {qn : Str} {fo : Option Addr} {cdv : Value}
theorem own_stop {M : Model} {A : Around} {E : Value → Shared → Prop} {s : Shared} {h₀ : Heap} {L : Addr} {m : Str → Option Value} {Q : Option Value → Shared → Prop} {env : Env} {outer : List Env} {e t : Addr} {h : Heap} {vs : List Value} {news : List (Addr × Obj)} {X : String}
    (R : RaisedK h₀ (env :: outer) e (.type X) t vs news s.heap) (hfr : env.frame = some L) (hsm : h.UpToSlots s.heap) (F : Fr h₀ L h m) (hsub : isSubtype (.type X) (.type "StopIteration") = pure true)
    (k : Fr h₀ L s.heap m → News h₀ L s.heap news → Q none s) : OwitStop M A Q E (.ref e) s := by
  obtain ⟨⟨B, hB, hl, hfl, _⟩, _⟩ := R
  have hL : B.get? L = none := by
    obtain ⟨_, ⟨L', _, hf, hn', _⟩, _⟩ := hfl.2.2.1
    rw [hfr] at hf
    obtain rfl : L = L' := Option.some.inj hf
    exact hn'
  have hf' := flyingW_base hB hfl
  obtain ⟨ob, hob, hobc⟩ := hf'.there
  have hT : s.TypeIs (.ref e) X := (show ∃ o, s.heap.get? e = some o ∧ o.cls = .type X from ⟨ob, hob, hobc⟩)
  unfold OwitStop
  refine wpAny_isInstance hT hsub ?_
  show (if true = true then Q none s else E (.ref e) s)
  rw [if_pos rfl]
  exact k (F.of_stays hf'.1 hsm) fun q hq => ⟨hfl.1 _ _ (hl q hq).1, (fun z => by have := (hl q hq).1; rw [z, hL] at this; cases this), (hl q hq).2⟩
theorem it_self {lx : Addr}
  (B : Below A₀ base outer h₀) (F : Fr h₀ L s.heap m) (X : (hd.heap_1 w.params).In h₀) (T : Top p loose mean mg mb h₀) (hdp : d < 900) (hun : u < 9000)
  (N : News h₀ L s.heap rest)
  (hQ : ∀ h' k, Fr h₀ L h' m → News h₀ L h' rest → Q (.ref lx) { s with heap := h', toks := k })
  : wpAny (model prog w) (ar hdl d (fenv ns ig ic mo gl cs qn fo cdv bi L :: outer) gs u) (call (.ref 712) [.ref lx]) Q E s := by
  refine wpAny_call ?_
  k_enter
  k_steps
  exact hQ _ _ (by assumption) (by assumption)
theorem inst_lx {P : Params} {kt : IoT} {T1 : LxT} {x : List Nat} {b : Bool} {ev f : Value} {io iod pb lx dx fs : Addr} {fn : Int} {c : LS} {h₀ h : Heap} {L : Addr} {R : List (Addr × Obj)} (N : News h₀ L h (lxLed P kt T1 x b ev f io iod pb lx dx fs fn c ++ R)) : ∃ ox od, InstAt h lx ox 722 od :=
  ⟨_, some _, ⟨N.get (List.mem_append_left _ (.tail _ (.tail _ (.tail _ (.head _))))), rfl, rfl, N.get (List.mem_append_left _ (.tail _ (.tail _ (.tail _ (.tail _ (.head _))))))⟩⟩
theorem news_r1 {h₀ h : Heap} {L : Addr} {a : Addr × Obj} {A R : List (Addr × Obj)} (N : News h₀ L h (a :: (A ++ R))) : News h₀ L h (A ++ (R ++ [a])) := by
  intro p hp
  refine N p ?_
  simp only [List.mem_append, List.mem_cons, List.not_mem_nil, or_false] at hp ⊢
  rcases hp with h | h | h <;> simp [h]
theorem news_l1 {h₀ h : Heap} {L : Addr} {a : Addr × Obj} {A R : List (Addr × Obj)} (N : News h₀ L h (A ++ (R ++ [a]))) : News h₀ L h (a :: (A ++ R)) := by
  intro p hp
  refine N p ?_
  simp only [List.mem_append, List.mem_cons, List.not_mem_nil, or_false] at hp ⊢
  rcases hp with h | h | h <;> simp [h]
theorem off_r1 {S a : Addr} {o : Obj} {R : List (Addr × Obj)} (hR : ∀ p ∈ R, p.1 ≠ a) (h : a ≠ S) : ∀ p ∈ R ++ [(S, o)], p.1 ≠ a := by
  intro p hp
  rcases List.mem_append.mp hp with hp | hp
  · exact hR p hp
  · rw [List.mem_singleton.mp hp]; exact Ne.symm h
theorem lxr_pbs {x : List Nat} {b : Bool} {c : LS} {row : List Dat} (h : LxR x b c row) : c.pbs.length ≤ row.length := by
  obtain ⟨_, _, pd, _, _, _, _, _, h6, h7⟩ := h
  rw [h7, h6.length]
  simp
def LlP (x : List Nat) (b : Bool) (row0 : List Dat) (c : LS × List Dat) (ys : List Value) : Prop :=
  LxR x b c.1 c.2 ∧ ∃ done, DatAll [] ys done ∧ (∀ d ∈ done, isE b d = false) ∧ row0 = done ++ c.2
def LlF (x : List Nat) (b : Bool) (row0 : List Dat) (c : LS × List Dat) (ys : List Value) : Prop :=
  LxR x b c.1 c.2 ∧ ∃ done, DatAll [] ys done ∧ (∀ d ∈ done, isE b d = false) ∧ ((row0 = done ∧ c.2 = []) ∨ ∃ d, row0 = done ++ d :: c.2 ∧ isE b d = true)
theorem list_lex {lx dx io iod pb fs : Addr} {x : List Nat} {kt : IoT} {T1 : LxT} {b : Bool} {ev f : Value} {fn : Int} {c : LS} {row : List Dat}
  (B : Below A₀ h₀ outer h₀) (F : Fr h₀ L s.heap m) (X : (hd.heap_1 w.params).In h₀) (T : Top p loose mean mg mb h₀) (hdp : d < 600) (hun : u < 6000)
  (hx : x.length ≤ 400) (hA : ∀ c ∈ x, A7 c) (h1 : @LT.lt Nat _ dx lx) (h2 : @LT.lt Nat _ lx iod) (h3 : @LT.lt Nat _ iod io) (h4 : @LT.lt Nat _ io pb) (h5 : @LT.lt Nat _ pb fs)
  (hr1 : ∀ p ∈ rest, p.1 ≠ iod) (hr2 : ∀ p ∈ rest, p.1 ≠ dx) (hr3 : ∀ p ∈ rest, p.1 ≠ pb) (hP : LxR x b c row) (hlen : row.length ≤ 5000) (hev : EV b ev) (hrow : ∀ d ∈ row, DNS d)
  (N : News h₀ L s.heap (lxLed w.params kt T1 x b ev f io iod pb lx dx fs fn c ++ rest))
  (hQ : ∀ h' S ys k c' row' done tk, Fr h₀ L h' m → News h₀ L h' ((S, listOf (ys : List Value).toArray k) :: (lxLed w.params kt T1 x b ev f io iod pb lx dx fs fn c' ++ rest)) → (∀ p ∈ lxLed w.params kt T1 x b ev f io iod pb lx dx fs fn c ++ rest, p.1 < S) → DatAll [] ys done → (∀ d ∈ done, isE b d = false) → LxR x b c' row' →
    ((row = done ∧ row' = []) ∨ ∃ d, row = done ++ d :: row' ∧ isE b d = true) → Q (.ref S) { s with heap := h', toks := tk })
  : wpAny (model prog w) (ar none d (fenv ns ig ic mo gl cs qn fo cdv bi L :: outer) gs u) (call (.type "list") [.ref lx]) Q E s := by
  have hs1 : findIn (hd.heap_1 w.params) (.ref 722) "__iter__" = some (some (.ref 712)) := by k_is
  have hs2 : findIn (hd.heap_1 w.params) (.ref 722) "__next__" = some (some (.ref 719)) := by k_is
  have hf1 : isFn (hd.heap_1 w.params) (.ref 712) = true := by k_is
  have hf2 : isFn (hd.heap_1 w.params) (.ref 719) = true := by k_is
  refine own_list (C := 722) (ox := instObj 722 dx) X F N (by k_is) (by k_is) (List.mem_append_left _ (.tail _ (.tail _ (.tail _ (.head _))))) (fun h N' => inst_lx N') ?_ ?_
  · intro S h tk Q' E' hS F' N' hQ'
    have ⟨ox', od', I'⟩ := inst_lx (fun p hp => N' p (.tail _ hp))
    refine owit_iter F' X I' hs1 hf1 ?_
    refine it_self B F' X T (by k_room) (by k_units) N' fun h'' k'' F'' N'' => ?_
    have ⟨ox'', od'', I''⟩ := inst_lx (fun p hp => N'' p (.tail _ hp))
    exact owit_it F'' X I'' hs2 (hQ' h'' k'' F'' N'')
  · intro S h' tk k' R hlt F' N' hR
    have e1 : ∀ c' : LS, ∀ p ∈ lxLed w.params kt T1 x b ev f io iod pb lx dx fs fn c' ++ rest, p.1 < S := by
      intro c' p hp
      rcases List.mem_append.mp hp with hp | hp
      · simp only [lxLed, List.mem_cons, List.not_mem_nil, or_false] at hp
        rcases hp with rfl | rfl | rfl | rfl | rfl | rfl
        · exact (show @LT.lt Nat _ io S from hlt (io, _) (List.mem_append_left _ (.head _)))
        · exact (show @LT.lt Nat _ iod S from hlt (iod, _) (List.mem_append_left _ (.tail _ (.head _))))
        · exact (show @LT.lt Nat _ pb S from hlt (pb, _) (List.mem_append_left _ (.tail _ (.tail _ (.head _)))))
        · exact (show @LT.lt Nat _ lx S from hlt (lx, _) (List.mem_append_left _ (.tail _ (.tail _ (.tail _ (.head _))))))
        · exact (show @LT.lt Nat _ dx S from hlt (dx, _) (List.mem_append_left _ (.tail _ (.tail _ (.tail _ (.tail _ (.head _)))))))
        · exact (show @LT.lt Nat _ fs S from hlt (fs, _) (List.mem_append_left _ (.tail _ (.tail _ (.tail _ (.tail _ (.tail _ (.head _))))))))
      · exact hlt _ (List.mem_append_right _ hp)
    have n1 : iod ≠ S := Nat.ne_of_lt (hlt (iod, _) (List.mem_append_left _ (.tail _ (.head _))))
    have n2 : dx ≠ S := Nat.ne_of_lt (hlt (dx, _) (List.mem_append_left _ (.tail _ (.tail _ (.tail _ (.tail _ (.head _)))))))
    have n3 : pb ≠ S := Nat.ne_of_lt (hlt (pb, _) (List.mem_append_left _ (.tail _ (.tail _ (.head _)))))
    refine own_loop (σ := LS × List Dat) (fun c => lxLed w.params kt T1 x b ev f io iod pb lx dx fs fn c.1 ++ rest) (LlP x b row) (LlF x b row) (fun c => c.2.length) (fun c p hp => Nat.ne_of_lt (e1 c.1 p hp)) ?_ ?_ row.length (c, row) [] k' h' tk rfl (by simp; omega) ⟨hP, [], .nil, by simp, rfl⟩ F' N'
    · rintro ⟨c1, row1⟩ ys k h2' tk2 E' ⟨hP1, done, d1, d2, d3⟩ hz F2 N2
      dsimp only at hP1 d3 hz N2
      have ⟨ox', od', I'⟩ := inst_lx (fun p hp => N2 p (.tail _ hp))
      have hpb := lxr_pbs hP1
      refine owit_next F2 X I' hs2 hf2 ?_
      have hrow1 : ∀ d ∈ row1, DNS d := fun d hd => hrow d (by rw [d3]; exact List.mem_append_right _ hd)
      refine nx B F2 X T (by k_room) (by k_units) hx hA h1 h2 h3 h4 h5 (off_r1 hr1 n1) (off_r1 hr2 n2) (off_r1 hr3 n3) hP1 (by omega) hev hrow1 (news_r1 N2) ?_ ?_
      · intro h3' v c' d row' k3 F3 N3 hP3 hr hd hne hl
        subst hr
        refine ⟨(c', row'), h3', k3, rfl, F3, news_l1 N3, ⟨hP3, done ++ [d], d1.append (.cons hd .nil), ?_, by rw [d3]; simp⟩, by simp⟩
        intro q hq
        rcases List.mem_append.mp hq with hq | hq
        · exact d2 q hq
        · rw [List.mem_singleton.mp hq]; exact hne
      · intro h3' e t c' row' k3 g' hR3 FG hU hP3 hr hl
        refine own_stop hR3 rfl hU FG (by kernel_rfl) fun F3 N3 => ?_
        refine ⟨(c', row'), h3', k3, rfl, F3, news_l1 N3, hP3, done, d1, d2, ?_⟩
        rcases hr with ⟨q1, q2⟩ | ⟨d, q1, q2⟩
        · exact .inl ⟨by rw [d3, q1]; simp, q2⟩
        · exact .inr ⟨d, by rw [d3, q1], q2⟩
    · rintro ⟨c1, row1⟩ ys k h2' tk2 ⟨hP1, done, d1, d2, d3⟩ F2 N2
      exact hR _ (hQ h2' S ys k c1 row1 done tk2 F2 N2 hlt d1 d2 hP1 d3)
end
end Mine

end
section
namespace Mine
open LCg
theorem off3_map {I C D : Addr} : ∀ {l l' : List (Addr × Obj)}, l.map (·.1) = l'.map (·.1) → Off3 I C D l → Off3 I C D l'
  | [], [], _, _ => trivial
  | [], _ :: _, h, _ => by cases h
  | _ :: _, [], h, _ => by cases h
  | p :: r, q :: t, h, x => by
    simp only [List.map_cons, List.cons.injEq] at h
    refine ⟨?_, off3_map h.2 x.2⟩
    rw [← h.1]
    exact x.1
theorem off1_map {D : Addr} : ∀ {l l' : List (Addr × Obj)}, l.map (·.1) = l'.map (·.1) → Off1 D l → Off1 D l'
  | [], [], _, _ => trivial
  | [], _ :: _, h, _ => by cases h
  | _ :: _, [], h, _ => by cases h
  | p :: r, q :: t, h, x => by
    simp only [List.map_cons, List.cons.injEq] at h
    refine ⟨?_, off1_map h.2 x.2⟩
    rw [← h.1]
    exact x.1
section
variable {w : World} {A : Around} {h₀ : Heap} {L : Addr} {m : Str → Option Value} {env : Env} {elt : Expr} {x : Str} {scope : Scope} {cl : List (Str × Addr)} {s : Shared} {Fin : List Value → List (Addr × Obj) → Prop}
/-- the end of one turn of a comprehension with a state -/
def CsEnd {σ : Type} (Led : σ → List (Addr × Obj)) (P : σ → List Value → Prop) (h₀ : Heap) (L : Addr) (m : Str → Option Value) (s : Shared) (top : List (Addr × Obj)) (ys : List Value) (y : Value) (s₂ : Shared) : Prop :=
  ∃ (c' : σ) (h' : Heap) (tk' : Nat), s₂ = { s with heap := h', toks := tk' } ∧ Fr h₀ L h' m ∧ News h₀ L h' (top ++ Led c') ∧ P c' (ys ++ [y])
theorem comp_st {σ : Type} {n : Nat} {P0 : Nat → Value → Prop} (Led : σ → List (Addr × Obj)) (P : Nat → σ → List Value → Prop) (c₀ : σ) (hmap : ∀ c c', (Led c).map (·.1) = (Led c').map (·.1)) (hp : P 0 c₀ [])
    (turn : ∀ i c ys v I oI C oC D m₂ h tk (E' : Value → Shared → Prop), i < n → P i c ys → P0 i v → NsObj oC m₂ → m₂ x = some v → Fr h₀ L h m → News h₀ L h ((I, oI) :: (C, oC) :: (D, lst ys) :: Led c) → Off3 I C D (Led c) → ((@Ne Nat I C) ∧ (@Ne Nat I D) ∧ (@Ne Nat C D)) →
      wpAny (model prog w) A (eval elt (compEnvC scope cl C env)) (CsEnd Led (P (i + 1)) h₀ L m { s with heap := h, toks := tk } [(I, oI), (C, oC), (D, lst ys)] ys) E' { s with heap := h, toks := tk })
    (fin : ∀ c ys, P n c ys → Fin ys (Led c)) : CompRest prog w A h₀ L m env elt x scope cl s (fun _ => True) P0 Fin n 0 [] (Led c₀) := by
  have key : ∀ (j i : Nat) (ys : List Value) (c : σ), i + j = n → P i c ys → CompRest prog w A h₀ L m env elt x scope cl s (fun _ => True) P0 Fin j i ys (Led c) := by
    intro j
    induction j with
    | zero =>
      intro i ys c hi hy
      have e : i = n := by omega
      subst e
      exact CompRest.zero (fin c ys hy)
    | succ j ih =>
      intro i ys c hi hy
      refine CompRest.succ ?_
      intro v I oI C oC D m₂ h tk E' hv hC hx F N off ne
      refine wpAny_mono (turn i c ys v I oI C oC D m₂ h tk E' (by omega) hy hv hC hx F N off ne) (fun y s₂ hq => ?_) fun _ _ e => e
      obtain ⟨c', h', tk', e, F', N', hP'⟩ := hq
      exact ⟨h', tk', Led c', e, F', N', off3_map (hmap c c') off, trivial, ih (i + 1) _ c' (by omega) hP'⟩
  exact key n 0 [] c₀ (by omega) hp
end
theorem rep_flat (v : Value) : ∀ (n : Nat) (a : List Value), List.foldl (fun x1 x2 => x1 ++ x2) a.toArray (List.replicate n #[v]) = (a ++ List.replicate n v).toArray
  | 0, a => by simp
  | n + 1, a => by
    rw [List.replicate_succ, List.foldl_cons]
    have e : a.toArray ++ #[v] = (a ++ [v]).toArray := by simp
    rw [e, rep_flat v n]
    simp [List.replicate_succ]
theorem mul_one {w : World} {A : Around} {E : Value → Shared → Prop} {s : Shared} {h₀ : Heap} {L l : Addr} {m : Str → Option Value} {news : List (Addr × Obj)} {v : Value} {k : Nat} {x : Int} {u : Tok} {Q : Value → Shared → Prop}
    (F : Fr h₀ L s.heap m) (N : News h₀ L s.heap news) (hm : (l, listOf [v].toArray k) ∈ news) (hlo : -1000000 ≤ x) (hhi : x < 1000000)
    (h : ∀ D h', Fr h₀ L h' m → News h₀ L h' ((D, listOf (List.replicate x.toNat v).toArray 0) :: news) → (∀ p ∈ news, p.1 < D) → Q (.ref D) { s with heap := h' }) :
    wpAny (model prog w) A (binaryOp .Mult (.ref l) (.int x u)) Q E s := by
  refine mul_list F N (N.get hm) (by omega) (by omega) (by simp; omega) fun h' F' N' => ?_
  have e : List.foldl (fun x1 x2 => x1 ++ x2) #[] (List.replicate (if [v].toArray.isEmpty = true then 0 else x.toNat) [v].toArray) = (List.replicate x.toNat v).toArray := rep_flat v x.toNat []
  rw [e] at N'
  exact h _ h' F' N' fun p hp => Heap.lt_size (N p hp).1
theorem cat_two {w : World} {A : Around} {E : Value → Shared → Prop} {s : Shared} {h₀ : Heap} {L l b : Addr} {m : Str → Option Value} {news : List (Addr × Obj)} {vs ws : List Value} {k j : Nat} {Q : Value → Shared → Prop}
    (F : Fr h₀ L s.heap m) (N : News h₀ L s.heap news) (hm : (l, listOf vs.toArray k) ∈ news) (hb : (b, listOf ws.toArray j) ∈ news) (hsz : vs.length + ws.length ≤ 1000000)
    (h : ∀ D h', Fr h₀ L h' m → News h₀ L h' ((D, listOf (vs ++ ws).toArray 0) :: news) → (∀ p ∈ news, p.1 < D) → Q (.ref D) { s with heap := h' }) :
    wpAny (model prog w) A (binaryOp .Add (.ref l) (.ref b)) Q E s :=
  add_lists (hsz := Nat.le_trans hsz (by decide +kernel)) F N ⟨_, N.get hm, rfl, k, rfl⟩ ⟨_, N.get hb, rfl, j, rfl⟩ fun h' F' N' => h _ h' F' N' fun p hp => Heap.lt_size (N p hp).1
def datOf (b : Bool) (tok : List Nat) : Dat := if b && tok.isEmpty then .none else .str (S tok)
theorem rv_dat {b : Bool} {tok : List Nat} {v : Value} {l : List (Addr × Obj)} (h : RV b tok v) : DatIn l v (datOf b tok) := by
  unfold RV at h
  unfold datOf
  cases hc : (b && tok.isEmpty) with
  | true => rw [hc, if_pos rfl] at h; subst h; exact .none
  | false =>
    rw [hc] at h
    simp only [Bool.false_eq_true, if_false] at h ⊢
    obtain ⟨t, rfl⟩ := h
    exact .str _ _
theorem ev_dat {b : Bool} {v : Value} {l : List (Addr × Obj)} (h : EV b v) : DatIn l v (datOf b []) := by
  unfold EV at h
  unfold datOf
  cases b with
  | true => simp only [if_true] at h; subst h; exact .none
  | false =>
    simp only [Bool.false_eq_true, if_false] at h
    obtain ⟨t, rfl⟩ := h
    have e : (S [] : Str) = Str.ofString "" := S_nil.symm
    simp only [Bool.false_and, Bool.false_eq_true, if_false, e]
    exact .str _ _
theorem strs_dat {l : List (Addr × Obj)} : ∀ {vs : List Value} {ws : List Str}, StrsAre vs ws → DatAll l vs (ws.map Dat.str)
  | _, _, .nil => .nil
  | _, _, .cons _ _ r => .cons (.str _ _) (strs_dat r)
theorem rep_dat {l : List (Addr × Obj)} {v : Value} {d : Dat} (h : DatIn l v d) : ∀ n : Nat, DatAll l (List.replicate n v) (List.replicate n d)
  | 0 => .nil
  | n + 1 => by rw [List.replicate_succ, List.replicate_succ]; exact .cons h (rep_dat h n)
theorem dat_ok {b : Bool} {tok : List Nat} (h : ∀ c ∈ tok, c < 1114112) (n : Nat) : kqdOk n (datOf b tok) = true := by
  unfold datOf
  split
  · cases n <;> rfl
  · have e : PyData.strOk (S tok) = true := by
      unfold PyData.strOk
      rw [Array.all_eq_true']
      intro c hc
      have : c ∈ tok := by simpa [S] using hc
      simpa using h c this
    cases n <;> exact e
end Mine

end
section
namespace Mine
section
variable {prog' : Program} {w : World} {A : Around} {E : Value → Shared → Prop} {s : Shared} {env : Env} {h₀ : Heap} {x : Str} {body : List Stmt} {Q : Flow → Shared → Prop}
def FreeEnd (h₀ : Heap) (L : Addr) (I l : Addr) (oI ol : Obj) (J : (Str → Option Value) → List (Addr × Obj) → Prop) (s₁ : Shared) (Q : Flow → Shared → Prop) (f : Flow) (s₂ : Shared) : Prop :=
  match f with
  | .ret v => Q (.ret v) s₂
  | .brk => Q .next s₂
  | _ => ∃ h' tk' m' nx', s₂ = { s₁ with heap := h', toks := tk' } ∧ Fr h₀ L h' m' ∧ News h₀ L h' (nx' ++ [(I, oI), (l, ol)]) ∧ (∀ p ∈ nx', p.1 ≠ I ∧ p.1 ≠ l) ∧ J m' nx'
theorem ints_free {l : Addr} {vs : List Value} {ns : List Int} {nn : Nat} {lg : List (Addr × Obj)} {m₀ : Str → Option Value} (J : Nat → (Str → Option Value) → List (Addr × Obj) → Prop)
    (hh : A.handled = none) (hi : IntsAre vs ns) (F : Fr h₀ env.locals s.heap m₀) (N : News h₀ env.locals s.heap ((l, listOf vs.toArray nn) :: lg)) (hlg : ∀ p ∈ lg, p.1 ≠ l) (hj : J 0 m₀ lg)
    (turn : ∀ i n t m₁ nx h tk I oI ol, ns[i]? = some n → J i m₁ nx → (∀ p ∈ nx, p.1 ≠ I ∧ p.1 ≠ l) → Fr h₀ env.locals h (fun y => if y = x then some (.int n t) else m₁ y) → News h₀ env.locals h (nx ++ [(I, oI), (l, ol)]) →
      wpAny (model prog' w) A (execs body env) (FreeEnd h₀ env.locals I l oI ol (J (i + 1)) { s with heap := h, toks := tk } Q) E { s with heap := h, toks := tk })
    (done : ∀ m₁ nx h tk, J ns.length m₁ nx → Fr h₀ env.locals h m₁ → News h₀ env.locals h nx → Q .next { s with heap := h, toks := tk }) :
    wpAny (model prog' w) A (pyIter (.ref l)) (fun it s₂ => LoopAtV prog' w A h₀ env x body Q E it s₂) E s := by
  have z := N _ (.head _)
  have hls : s.heap.IsList l vs.toArray := ⟨_, z.1, rfl, nn, rfl⟩
  have hne : l ≠ s.heap.objs.size := Nat.ne_of_lt (Heap.lt_size z.1)
  have N0 : News h₀ env.locals s.heap lg := fun p hp => N p (.tail _ hp)
  refine wpAny_pyIter_list hls ?_
  have W := Walks.list (prog := prog') (w := w) hh s.heap.objs.size l hne vs.toArray
  have hlen : vs.toArray.size = ns.length := by simp [hi.length]
  rw [hlen] at W
  let J' : Nat → (Str → Option Value) → List (Addr × Obj) → Prop := fun i m₁ news₁ => (∀ p ∈ news₁, p.1 ≠ s.heap.objs.size ∧ p.1 ≠ l) ∧ J i m₁ news₁
  refine ⟨_, _, _, ns.length, _, _, m₀, lg, J', rfl, W, ?_, ?_, ?_, ⟨⟨_, Heap.get?_push_size _ rfl, rfl, rfl⟩, hls.at fun o e => Heap.get?_push_of_some _ e⟩, F.push _, (fun p hp => ⟨Heap.get?_push_of_some _ (N0 p hp).1, (N0 p hp).2⟩), ⟨fun p hp => ⟨Nat.ne_of_lt (Heap.lt_size (N0 p hp).1), hlg p hp⟩, hj⟩, ?_, ?_⟩
  · intro hm
    rcases List.mem_cons.mp hm with e | hm
    · exact absurd F.ns.lt (e ▸ Nat.lt_irrefl _)
    · exact z.2.1 (List.mem_singleton.mp hm).symm
  · intro b hb
    rw [List.mem_singleton.mp hb]
    exact next_is_new F
  · intro p hp hI
    exact absurd (Heap.lt_size (N0 p hp).1) ((List.mem_singleton.mp hI) ▸ Nat.lt_irrefl _)
  · rintro i v m₁ news₁ s₁ own ⟨hh', tk', rfl⟩ hin hP ⟨hadr, hJ⟩ hoff hown hat hall hst F₁ N₁
    obtain ⟨⟨oI, hoI, _⟩, ⟨ol, hol, _⟩⟩ := hst
    have mI : (s.heap.objs.size, oI) ∈ own := hall _ (.head _) (next_is_new F) _ hoI
    have ml : (l, ol) ∈ own := hall _ (.tail _ (.head _)) z.2.2 _ hol
    have hown2 : ∀ p ∈ own, p ∈ [(s.heap.objs.size, oI), (l, ol)] := by
      rintro ⟨a, o⟩ hp
      have h1 := hat _ hp
      rcases List.mem_cons.mp (hown _ hp) with e | e
      · dsimp only at e h1
        subst e
        rw [hoI] at h1
        cases h1
        exact .head _
      · have e := List.mem_singleton.mp e
        dsimp only at e h1
        subst e
        rw [hol] at h1
        cases h1
        exact .tail _ (.head _)
    have hlt' : i < ns.length := hin
    obtain ⟨t, hx⟩ := hi.get i ns[i] (by simp [hlt'])
    have hv : v = .int ns[i] t := by
      have hP' : vs[i]? = some v := by simpa using hP
      rw [hx] at hP'; exact (Option.some.inj hP').symm
    subst hv
    have N₂ : News h₀ env.locals hh' (news₁ ++ [(s.heap.objs.size, oI), (l, ol)]) := by
      intro p hp
      rcases List.mem_append.mp hp with hp | hp
      · exact N₁ p (List.mem_append_right _ hp)
      · simp only [List.mem_cons, List.not_mem_nil, or_false] at hp
        rcases hp with rfl | rfl
        · exact N₁ _ (List.mem_append_left _ mI)
        · exact N₁ _ (List.mem_append_left _ ml)
    refine wpAny_mono (turn i ns[i] t m₁ news₁ hh' tk' s.heap.objs.size oI ol (by simp [hlt']) hJ hadr F₁ N₂) (fun f s₂ p => ?_) fun _ _ e => e
    have fin : (∃ h' tk'' m' nx', s₂ = { s with heap := h', toks := tk'' } ∧ Fr h₀ env.locals h' m' ∧ News h₀ env.locals h' (nx' ++ [(s.heap.objs.size, oI), (l, ol)]) ∧ (∀ p ∈ nx', p.1 ≠ s.heap.objs.size ∧ p.1 ≠ l) ∧ J (i + 1) m' nx') → LoopStepU h₀ env.locals [s.heap.objs.size] own (J' (i + 1)) { s with heap := hh', toks := tk' } .next s₂ := by
      rintro ⟨h', tk, m', nx', e, F', N', ha, hm⟩
      refine ⟨rfl, h', tk, m', nx', e, F', fun p hp => ?_, fun p hp hq => (ha p hp).1 (List.mem_singleton.mp hq), ha, hm⟩
      rcases List.mem_append.mp hp with hp | hp
      · exact N' p (List.mem_append_right _ (hown2 p hp))
      · exact N' p (List.mem_append_left _ hp)
    cases f with
    | ret v => exact .ret p
    | brk => exact .brk p
    | next => exact .next (fin p)
    | cont => exact .cont (fin p)
  · rintro h' tk m' news' F' N' _ ⟨_, hJ⟩
    exact done m' news' h' tk hJ F' N'
end
end Mine

end
section
namespace Mine
def LwMid (g : Heap) (L c : Addr) (oc : Obj) (s : Shared) (s' : Shared) : Prop :=
  ∃ h tk D vs nums nn m', s' = { s with heap := h, toks := tk } ∧ Fr g L h m' ∧ News g L h [(D, listOf (vs : List Value).toArray nn), (c, oc)] ∧ IntsAre vs nums ∧ nums ≠ [] ∧ nums.length ≤ 40 ∧ m' (Str.ofString "numbers") = some (.ref D) ∧ @Ne Nat c D
theorem lw_mid {g h : Heap} {L c D : Addr} {oc : Obj} {s : Shared} {tk nn : Nat} {vs : List Value} {nums : List Int} {m' : Str → Option Value} {l : List (Addr × Obj)} (F : Fr g L h m') (N : News g L h l) (hi : IntsAre vs nums) (h1 : nums ≠ []) (h2 : nums.length ≤ 40)
  (h3 : m' (Str.ofString "numbers") = some (.ref D)) (h4 : @Ne Nat c D) (hl : ∀ p ∈ [(D, listOf vs.toArray nn), (c, oc)], p ∈ l) : LwMid g L c oc s { s with heap := h, toks := tk } :=
  ⟨h, tk, D, vs, nums, nn, m', rfl, F, fun p hp => N p (hl p hp), hi, h1, h2, h3, h4⟩
theorem lw_if {w : World} {A : Around} {E : Value → Shared → Prop} {env : Env} {st : Stmt} {rest : List Stmt} {Q : Flow → Shared → Prop} {g : Heap} {L c : Addr} {oc : Obj} {s : Shared} {m : Str → Option Value} {a1 a2 : Addr × Obj}
    (F : Fr g L s.heap m) (N : News g L s.heap [a1, a2, (c, oc)])
    (h1 : wpAny (model prog w) A (exec st env) (fun f s' => match f with | .next => LwMid g L c oc s s' | f => Q f s') E s)
    (h2 : ∀ h tk D vs nums nn (m' : Str → Option Value), Fr g L h (fun y => if y = Str.ofString "numbers" then some (.ref D) else m' y) → News g L h [(D, listOf (vs : List Value).toArray nn), (c, oc)] → IntsAre vs nums → nums ≠ [] → nums.length ≤ 40 → @Ne Nat c D →
      wpAny (model prog w) A (execs rest env) Q E { s with heap := h, toks := tk }) : wpAny (model prog w) A (execs (st :: rest) env) Q E s :=
  execs_mid (LwMid g L c oc s) h1 (by
    rintro s' ⟨h, tk, D, vs, nums, nn, m', rfl, F', N', a, b, c, d, e⟩
    refine h2 h tk D vs nums nn m' ?_ N' a b c e
    have ee : (fun y => if y = Str.ofString "numbers" then some (.ref D) else m' y) = m' := by
      funext y
      by_cases hy : y = Str.ofString "numbers"
      · rw [if_pos hy, hy, d]
      · rw [if_neg hy]
    rw [ee]
    exact F')
theorem end_val {w : World} {A : Around} {E : Value → Shared → Prop} {Q : Value → Shared → Prop} {s : Shared} {env : Env} {e : Expr} {b : Bool} (h1 : wpAny (model prog w) A (eval e env) (fun v s' => EV b v ∧ ∃ k, s' = { s with toks := k }) E s) (h2 : ∀ v k, EV b v → Q v { s with toks := k }) :
    wpAny (model prog w) A (eval e env) Q E s := wpAny_mono h1 (fun v s' h => by obtain ⟨a, k, rfl⟩ := h; exact h2 v k a) fun _ _ x => x
theorem kst_intro {g h : Heap} {L : Addr} {m : Str → Option Value} {ps : List (Str × Value)} (F : Fr g L h m) (hp : ∀ p ∈ ps, m p.1 = some p.2) : ∃ m', Fr g L h (kstB m' ps) := by
  refine ⟨m, ?_⟩
  have e : kstB m ps = m := by
    funext z
    exact kstB_eq hp fun _ => rfl
  rw [e]
  exact F
theorem is_none {w : World} {A : Around} {E : Value → Shared → Prop} {Q : Value → Shared → Prop} {s : Shared} {b : Bool} {v : Value} (hE : EV b v) (h : Q (.bool b) s) : wpAny (model prog w) A (compareOp .Is v .none) Q E s := by
  unfold EV at hE
  cases b with
  | true => simp only [if_true] at hE; subst hE; exact fun _ _ _ => h
  | false => simp only [Bool.false_eq_true, if_false] at hE; obtain ⟨t, rfl⟩ := hE; exact fun _ _ _ => h
end Mine

end
section
namespace Mine
section
variable {w : World} {A₀ : Around} {base h₀ : Heap} {outer : List Env} {L : Addr} {m mg mb : Str → Option Value} {loose : List Str} {mean : ExcName → Option Value} {s : Shared} {Q E : Value → Shared → Prop} {p : Program}
  {hdl : Option Value} {d u : Nat} {gs : Option (List Code)} {rest : List (Addr × Obj)} {ns : List (Str × NameKind)} {ig ic : Bool} {mo : List (Str × Const)} {gl bi : Addr} {cs : List (Str × Addr)} {qn : Str} {fo : Option Addr} {cdv : Value}
/-! law 3: the loop over the deeds -/
def DOK (d : Dat) : Prop := DNS d ∧ kqdOk 8 d = true
theorem ne_dat {w : World} {A : Around} {E : Value → Shared → Prop} {s : Shared} {Q : Value → Shared → Prop} {d : Dat} {v u : Value} {l l' : List (Addr × Obj)} (hv : DatIn l v d) (hu : DatIn l' u d) (hd : DNS d) (h : Q (.bool false) s) : wpAny (model prog w) A (compareOp .NotEq v u) Q E s := by
  rcases hd with rfl | ⟨y, rfl⟩
  · cases hv; cases hu; exact PySem.EqNone.ne_none_none h
  · cases hv; cases hu; exact P.ne_str (by simpa using h)
theorem ne_isE {w : World} {A : Around} {E : Value → Shared → Prop} {s : Shared} {Q : Value → Shared → Prop} {b : Bool} {d : Dat} {v ev : Value} {l : List (Addr × Obj)} (hv : DatIn l v d) (hd : DNS d) (hE : EV b ev) (h : Q (.bool (!isE b d)) s) : wpAny (model prog w) A (compareOp .NotEq v ev) Q E s := by
  unfold EV at hE
  rcases hd with rfl | ⟨y, rfl⟩
  · cases hv
    cases b with
    | true => simp only [if_true] at hE; subst hE; exact PySem.EqNone.ne_none_none h
    | false => simp only [Bool.false_eq_true, if_false] at hE; obtain ⟨t, rfl⟩ := hE; exact PySem.EqNone.ne_none_str h
  · cases hv
    cases b with
    | true => simp only [if_true] at hE; subst hE; exact PySem.EqNone.ne_str_none h
    | false =>
      simp only [Bool.false_eq_true, if_false] at hE
      obtain ⟨t, rfl⟩ := hE
      refine P.ne_str ?_
      have e : (y.cps.toList != (Str.ofString "").cps.toList) = !isE false (.str y) := by
        rw [S_nil]
        cases hy : y.cps.toList with
        | nil => simp [isE, S, hy]
        | cons a r => simp [isE, S, hy]
      rw [e]; exact h
theorem end_dat {b : Bool} : DOK (datOf b []) := by
  cases b with
  | true => exact ⟨.inl rfl, by rfl⟩
  | false => exact ⟨.inr ⟨_, rfl⟩, dat_ok (by simp) 8⟩
theorem end_isE {b : Bool} : isE b (datOf b []) = true := by cases b <;> rfl
abbrev loPs (R : Addr) (endv lv : Value) : List (Str × Value) := [(Str.ofString "end", endv), (Str.ofString "row", .ref R), (Str.ofString "last", lv)]
def Ne6 (R io iod pb lx dx fs ca : Addr) : Prop := @Ne Nat R io ∧ @Ne Nat R iod ∧ @Ne Nat R pb ∧ @Ne Nat R lx ∧ @Ne Nat R dx ∧ @Ne Nat R fs ∧ @Ne Nat R ca
def LoJ (P : Params) (kt : IoT) (T1 : LxT) (x : List Nat) (b : Bool) (ev endv : Value) (io iod pb lx dx fs ca : Addr) (oc : Obj) (i : Nat) (m : Str → Option Value) (nx : List (Addr × Obj)) : Prop :=
  ∃ (c : LS) (R : Addr) (vs : List Value) (rk : Nat) (row : List Dat) (m' : Str → Option Value) (lv : Value) (ld : Dat),
    m = kstB m' (loPs R endv lv) ∧ nx = lxLed P kt T1 x b ev .none io iod pb lx dx fs 0 c ++ [(R, listOf vs.toArray rk), (ca, oc)] ∧ LxR x b c row ∧ DatAll [] vs row ∧ (∀ d ∈ row, DOK d) ∧ DatIn [] lv ld ∧ DOK ld ∧ row.length ≤ 400 + i ∧ Ne6 R io iod pb lx dx fs ca
theorem lo_gen {g h : Heap} {L : Addr} {m : Str → Option Value} {ps : List (Str × Value)} (F : Fr g L h m) (hp : ∀ p ∈ ps, m p.1 = some p.2) : Fr g L h (kstB m ps) := by
  have e : kstB m ps = m := by
    funext z
    exact kstB_eq hp fun _ => rfl
  rw [e]
  exact F
theorem all3p {α : Type} {P : α → Prop} {a b c : α} (ha : P a) (hb : P b) (hc : P c) : ∀ p ∈ [a, b, c], P p := by
  intro p hp
  simp only [List.mem_cons, List.not_mem_nil, or_false] at hp
  rcases hp with rfl | rfl | rfl <;> assumption
theorem lo_j {g h : Heap} {L : Addr} {m : Str → Option Value} {P : Params} {kt : IoT} {T1 : LxT} {x : List Nat} {b : Bool} {ev endv lv : Value} {io iod pb lx dx fs ca R : Addr} {oc : Obj} {i : Nat} {c : LS} {vs : List Value} {rk : Nat} {row : List Dat} {ld : Dat}
  (_F : Fr g L h m) (h2 : m (Str.ofString "end") = some endv) (h3 : m (Str.ofString "row") = some (.ref R)) (h4 : m (Str.ofString "last") = some lv)
  (p1 : LxR x b c row) (p2 : DatAll [] vs row) (p3 : ∀ d ∈ row, DOK d) (p4 : DatIn [] lv ld) (p5 : DOK ld) (p6 : row.length ≤ 400 + i) (p7 : Ne6 R io iod pb lx dx fs ca) :
  LoJ P kt T1 x b ev endv io iod pb lx dx fs ca oc i m (lxLed P kt T1 x b ev .none io iod pb lx dx fs 0 c ++ [(R, listOf vs.toArray rk), (ca, oc)]) := by
  refine ⟨c, R, vs, rk, row, m, lv, ld, ?_, rfl, p1, p2, p3, p4, p5, p6, p7⟩
  funext z
  exact (kstB_eq (all3p (P := fun p : Str × Value => m p.1 = some p.2) h2 h3 h4) fun _ => rfl).symm
theorem ne_nil {w : World} {A : Around} {E : Value → Shared → Prop} {s : Shared} {Q : Value → Shared → Prop} {h₀ : Heap} {L a b' : Addr} {news : List (Addr × Obj)} {xs : List Value} {ds : List Dat} {ka kb : Nat} (N : News h₀ L s.heap news) (ma : (a, listOf xs.toArray ka) ∈ news) (Da : DatAll [] xs ds) (mb : (b', listOf (([] : List Value)).toArray kb) ∈ news)
  (ha : ∀ d ∈ ds, DOK d) (hu : A.units + 64 < cLine) (h : Q (.bool (!ds.isEmpty)) s) : wpAny (model prog w) A (compareOp .NotEq (.ref a) (.ref b')) Q E s := by
  refine kqd_ne (n₁ := []) (n₂ := []) (es := []) (ys := []) N ma rfl rfl Da (fun p hp => absurd hp List.not_mem_nil) mb rfl rfl .nil (fun p hp => absurd hp List.not_mem_nil) (fun d hd => (ha d hd).2) (fun d hd => absurd hd List.not_mem_nil) hu ?_
  cases ds with
  | nil => exact h
  | cons d r => exact h
theorem ne_evs {w : World} {A : Around} {E : Value → Shared → Prop} {s : Shared} {Q : Value → Shared → Prop} {b : Bool} {v ev : Value} (hv : EV b v) (hE : EV b ev) (h : Q (.bool false) s) : wpAny (model prog w) A (compareOp .NotEq v ev) Q E s :=
  ne_dat (ev_dat (l := []) hv) (ev_dat (l := []) hE) end_dat.1 h
theorem seq0 {n : Nat} : seqIndex? 0 (n + 1) = some 0 := by
  unfold seqIndex?
  simp
theorem lo_pop {w : World} {A : Around} {E : Value → Shared → Prop} {s : Shared} {Q : Value → Shared → Prop} {h₀ : Heap} {L R : Addr} {m : Str → Option Value} {news news' : List (Addr × Obj)} {v0 : Value} {vs0 : List Value} {rk : Nat} {u : Tok} (F : Fr h₀ L s.heap m) (N : News h₀ L s.heap news)
  (U : Upd R (listOf (v0 :: vs0).toArray rk) (listOf vs0.toArray (rk + 1)) news news') (hz : vs0.length ≤ 100000) (h : ∀ h', Fr h₀ L h' m → News h₀ L h' news' → Q v0 { s with heap := h' }) : wpAny (model prog w) A (call (.builtin "list.pop") [.ref R, .int 0 u]) Q E s :=
  kl_popAt (its := (v0 :: vs0).toArray) (k := 0) (p := []) (q := vs0) (y := v0) F N rfl (by simpa using seq0) rfl U (by rw [PySem.sizeLine_eq]; simp only [List.length_cons]; omega) h
theorem lne : ¬ Str.ofString "end" = Str.ofString "last" ∧ ¬ Str.ofString "end" = Str.ofString "deed" ∧ ¬ Str.ofString "end" = Str.ofString "size" ∧ ¬ Str.ofString "end" = Str.ofString "token" ∧ ¬ Str.ofString "end" = Str.ofString "row" ∧ ¬ Str.ofString "end" = Str.ofString "text" ∧ ¬ Str.ofString "end" = Str.ofString "deeds" ∧
  ¬ Str.ofString "row" = Str.ofString "last" ∧ ¬ Str.ofString "row" = Str.ofString "deed" ∧ ¬ Str.ofString "row" = Str.ofString "size" ∧ ¬ Str.ofString "row" = Str.ofString "token" ∧ ¬ Str.ofString "row" = Str.ofString "end" ∧
  ¬ Str.ofString "last" = Str.ofString "deed" ∧ ¬ Str.ofString "last" = Str.ofString "size" ∧ ¬ Str.ofString "last" = Str.ofString "token" ∧ ¬ Str.ofString "last" = Str.ofString "row" ∧ ¬ Str.ofString "last" = Str.ofString "end" := by decide +kernel
theorem lo_start {g h : Heap} {L : Addr} {l l2 x1 x2 x3 x4 x5 x6 r q d D c : Addr × Obj} (N : News g L h [l, l2, x1, x2, x3, x4, x5, x6, r, q, d, D, c]) (ho : ∀ p ∈ [l2, x1, x2, x3, x4, x5, x6, r, q, d, D, c], p.1 < l.1) :
  News g L h (l :: ([x1, x2, x3, x4, x5, x6] ++ [r, c])) ∧ ∀ p ∈ [x1, x2, x3, x4, x5, x6] ++ [r, c], p.1 ≠ l.1 := by
  constructor
  · intro p hp
    refine N p ?_
    simp only [List.cons_append, List.nil_append, List.mem_cons, List.not_mem_nil, or_false] at hp ⊢
    rcases hp with h | h | h | h | h | h | h | h | h <;> simp [h]
  · intro p hp
    refine Nat.ne_of_lt (ho p ?_)
    simp only [List.cons_append, List.nil_append, List.mem_cons, List.not_mem_nil, or_false] at hp ⊢
    rcases hp with h | h | h | h | h | h | h | h <;> simp [h]
theorem tfold_mem (W : Nat → Bool) (P : Nat → Prop) : ∀ (l : List Nat) (g : TF), (∀ a ∈ l, P a) → (∀ t ∈ g.gi, ∀ a ∈ t, P a) → (∀ t ∈ (tfold W g l).gi, ∀ a ∈ t, P a) ∧ (tfold W g l).gi.length ≤ g.gi.length + l.length
  | [], g, _, h => ⟨h, Nat.le_refl _⟩
  | c :: r, g, hl, h => by
    have hc := hl c (.head _)
    have hs : ∀ t ∈ g.gi ++ [[c]], ∀ a ∈ t, P a := by
      intro t ht
      rcases List.mem_append.mp ht with ht | ht
      · exact h t ht
      · rw [List.mem_singleton.mp ht]
        intro a ha
        rw [List.mem_singleton.mp ha]; exact hc
    have h1 : (∀ t ∈ (tstep W g c).gi, ∀ a ∈ t, P a) ∧ (tstep W g c).gi.length ≤ g.gi.length + 1 := by
      unfold tstep
      split
      · split
        · constructor
          · intro t ht
            rcases List.mem_append.mp ht with ht | ht
            · exact h t (List.dropLast_subset _ ht)
            · rw [List.mem_singleton.mp ht]
              intro a ha
              rcases List.mem_append.mp ha with ha | ha
              · cases e : g.gi.getLast? with
                | none => rw [e] at ha; simp at ha
                | some u => rw [e] at ha; exact h u (List.mem_of_getLast? e) a ha
              · rw [List.mem_singleton.mp ha]; exact hc
          · simp only [List.length_append, List.length_dropLast, List.length_singleton]; omega
        · exact ⟨hs, by simp⟩
      · split
        · exact ⟨h, Nat.le_succ _⟩
        · exact ⟨hs, by simp⟩
    have ih := tfold_mem W P r (tstep W g c) (fun a ha => hl a (.tail _ ha)) h1.1
    refine ⟨ih.1, ?_⟩
    have h2 := ih.2
    have h3 := h1.2
    show (tfold W (tstep W g c) r).gi.length ≤ _
    simp only [List.length_cons]
    omega
theorem toks_dok {W : Nat → Bool} {x : List Nat} (hA : ∀ c ∈ x, A7 c) : (∀ d ∈ (toksOf W x).map (fun t => Dat.str (S t)), DOK d) ∧ ((toksOf W x).map (fun t => Dat.str (S t))).length ≤ x.length := by
  have h := tfold_mem W (fun a => a < 1114112) x ⟨[], false⟩ (fun a ha => by
    have := hA a ha
    unfold A7 at this
    simp only [List.mem_cons, List.not_mem_nil, or_false] at this
    omega) (by simp)
  constructor
  · intro d hd
    obtain ⟨t, ht, rfl⟩ := List.mem_map.mp hd
    refine ⟨.inr ⟨_, rfl⟩, ?_⟩
    have := dat_ok (b := false) (tok := t) (h.1 t ht) 8
    simpa [datOf] using this
  · rw [List.length_map]
    have h2 := h.2
    rw [List.length_nil, Nat.zero_add] at h2
    exact h2
theorem lo_deed {ks : List Int} {i : Nat} {n : Int} (h : ∀ k ∈ ks, 7 ≤ k ∧ k < 16) (hn : (ks ++ [11, 11, 7])[i]? = some n) : (7 ≤ n ∧ n < 16) ∧ i < ks.length + 3 := by
  have hm := List.mem_of_getElem? hn
  have hl := (List.getElem?_eq_some_iff.mp hn).1
  refine ⟨?_, by simpa using hl⟩
  rcases List.mem_append.mp hm with hm | hm
  · exact h n hm
  · simp only [List.mem_cons, List.not_mem_nil, or_false] at hm
    omega
/-- the end of one turn -/
theorem lo_end {g h h2 : Heap} {L I l : Addr} {oI ol : Obj} {s : Shared} {Q : Flow → Shared → Prop} {tk tk2 : Nat} {m2 : Str → Option Value} {P : Params} {kt : IoT} {T1 : LxT} {x : List Nat} {b : Bool} {ev endv lv : Value} {io iod pb lx dx fs ca R R' : Addr} {oc : Obj} {nl : List (Addr × Obj)} {o : Obj} {i : Nat} {c c' : LS} {vs' : List Value} {rk' : Nat} {row' : List Dat} {ld : Dat}
  (F : Fr g L h2 m2) (N : News g L h2 nl) (h2' : m2 (Str.ofString "end") = some endv) (h3 : m2 (Str.ofString "row") = some (.ref R')) (h4 : m2 (Str.ofString "last") = some lv)
  (hs : ∀ p ∈ lxLed P kt T1 x b ev .none io iod pb lx dx fs 0 c' ++ [(R', listOf vs'.toArray rk'), (ca, oc), (I, oI), (l, ol)], p ∈ nl)
  (ha : ∀ p ∈ lxLed P kt T1 x b ev .none io iod pb lx dx fs 0 c ++ [(R, o), (ca, oc)], p.1 ≠ I ∧ p.1 ≠ l) (hR : @Ne Nat R' I ∧ @Ne Nat R' l)
  (p1 : LxR x b c' row') (p2 : DatAll [] vs' row') (p3 : ∀ d ∈ row', DOK d) (p4 : DatIn [] lv ld) (p5 : DOK ld) (p6 : row'.length ≤ 400 + (i + 1)) (p7 : Ne6 R' io iod pb lx dx fs ca) :
  FreeEnd g L I l oI ol (LoJ P kt T1 x b ev endv io iod pb lx dx fs ca oc (i + 1)) { s with heap := h, toks := tk } Q .next { s with heap := h2, toks := tk2 } := by
  refine ⟨h2, tk2, m2, lxLed P kt T1 x b ev .none io iod pb lx dx fs 0 c' ++ [(R', listOf vs'.toArray rk'), (ca, oc)], rfl, F, fun p hp => N p (hs p (by rw [List.append_assoc] at hp; exact hp)), ?_, lo_j F h2' h3 h4 p1 p2 p3 p4 p5 p6 p7⟩
  intro p hp
  rcases List.mem_append.mp hp with hp | hp
  · have hL : p.1 ∈ (lxLed P kt T1 x b ev .none io iod pb lx dx fs 0 c).map (·.1) := List.mem_map_of_mem (f := (·.1)) hp
    obtain ⟨q, hq, e⟩ := List.mem_map.mp hL
    rw [← e]
    exact ha q (List.mem_append_left _ hq)
  · simp only [List.mem_cons, List.not_mem_nil, or_false] at hp
    rcases hp with rfl | rfl
    · exact hR
    · exact ha _ (List.mem_append_right _ (.tail _ (.head _)))
theorem ne6_gt {P : Params} {kt : IoT} {T1 : LxT} {x : List Nat} {b : Bool} {ev : Value} {io iod pb lx dx fs ca R R' : Addr} {c : LS} {o oc : Obj} {l : List (Addr × Obj)} (h : ∀ p ∈ lxLed P kt T1 x b ev .none io iod pb lx dx fs 0 c ++ (R, o) :: (ca, oc) :: l, p.1 < R') : Ne6 R' io iod pb lx dx fs ca :=
  have h' : ∀ p ∈ lxLed P kt T1 x b ev .none io iod pb lx dx fs 0 c, p.1 < R' := fun p hp => h p (List.mem_append_left _ hp)
  ⟨Nat.ne_of_gt (h' _ (.head _)), Nat.ne_of_gt (h' _ (.tail _ (.head _))), Nat.ne_of_gt (h' _ (.tail _ (.tail _ (.head _)))), Nat.ne_of_gt (h' _ (.tail _ (.tail _ (.tail _ (.head _))))), Nat.ne_of_gt (h' _ (.tail _ (.tail _ (.tail _ (.tail _ (.head _)))))), Nat.ne_of_gt (h' _ (.tail _ (.tail _ (.tail _ (.tail _ (.tail _ (.head _))))))), Nat.ne_of_gt (h _ (List.mem_append_right _ (.tail _ (.head _))))⟩
theorem lo_three {ca I l R : Addr} {oc oI ol : Obj} (h : @Ne Nat R ca) (hI : @Ne Nat R I ∧ @Ne Nat R l) : ∀ p ∈ [(ca, oc), (I, oI), (l, ol)], p.1 ≠ R := by
  intro p hp
  simp only [List.mem_cons, List.not_mem_nil, or_false] at hp
  rcases hp with rfl | rfl | rfl
  · exact Ne.symm h
  · exact Ne.symm hI.1
  · exact Ne.symm hI.2
/-- the row within the turn's ledger -/
theorem lo_upd {P : Params} {kt : IoT} {T1 : LxT} {x : List Nat} {b : Bool} {ev : Value} {io iod pb lx dx fs ca R I l : Addr} {c : LS} {oc oI ol o o' : Obj} (h : Ne6 R io iod pb lx dx fs ca) (hI : @Ne Nat R I ∧ @Ne Nat R l) :
  Upd R o o' (lxLed P kt T1 x b ev .none io iod pb lx dx fs 0 c ++ [(R, o), (ca, oc), (I, oI), (l, ol)]) (lxLed P kt T1 x b ev .none io iod pb lx dx fs 0 c ++ [(R, o'), (ca, oc), (I, oI), (l, ol)]) :=
  .tail (Ne.symm h.1) (.tail (Ne.symm h.2.1) (.tail (Ne.symm h.2.2.1) (.tail (Ne.symm h.2.2.2.1) (.tail (Ne.symm h.2.2.2.2.1) (.tail (Ne.symm h.2.2.2.2.2.1) (.head (lo_three h.2.2.2.2.2.2 hI)))))))
theorem lo_off {R ca I l a : Addr} {oc oI ol o : Obj} (h1 : @Ne Nat R a) (h3 : @Ne Nat ca a) (h2 : @Ne Nat a I ∧ @Ne Nat a l) : ∀ p ∈ [(R, o), (ca, oc), (I, oI), (l, ol)], p.1 ≠ a := by
  intro p hp
  simp only [List.mem_cons, List.not_mem_nil, or_false] at hp
  rcases hp with rfl | rfl | rfl | rfl
  · exact h1
  · exact h3
  · exact Ne.symm h2.1
  · exact Ne.symm h2.2
theorem dall_take {l : List (Addr × Obj)} : ∀ {n : Nat} {vs : List Value} {ds : List Dat}, DatAll l vs ds → DatAll l (vs.take n) (ds.take n)
  | 0, _, _, _ => by simp only [List.take_zero]; exact .nil
  | _ + 1, _, _, .nil => .nil
  | _ + 1, _, _, .cons h r => .cons h (dall_take r)
theorem dall_drop {l : List (Addr × Obj)} : ∀ {n : Nat} {vs : List Value} {ds : List Dat}, DatAll l vs ds → DatAll l (vs.drop n) (ds.drop n)
  | 0, _, _, h => h
  | _ + 1, _, _, .nil => .nil
  | n + 1, _, _, .cons _ r => by have := dall_drop (n := n) r; exact this
theorem pick_take {vs : List Value} {n : Nat} (h : n ≤ vs.length) : kms_pick vs none (some (n : Int)) = vs.take n := by
  unfold kms_pick kms_lo kms_hi
  have h0 : ¬ ((n : Int) < 0) := by omega
  simp only [h0, if_false, Int.toNat_natCast, List.drop_zero, Nat.sub_zero]
  rw [Nat.min_eq_left h]
theorem pick_drop {vs : List Value} {n : Nat} : kms_pick vs (some ((n : Int) + 1)) none = vs.drop (n + 1) := by
  unfold kms_pick kms_lo kms_hi
  have h0 : ¬ ((n : Int) + 1 < 0) := by omega
  have h1 : ((n : Int) + 1).toNat = n + 1 := by omega
  simp only [h0, if_false, h1]
  by_cases h : n + 1 ≤ vs.length
  · rw [Nat.min_eq_left h]
    exact List.take_of_length_le (by simp)
  · rw [Nat.min_eq_right (by omega)]
    rw [List.drop_of_length_le (Nat.le_refl _), List.drop_of_length_le (by omega)]
    simp
structure WS where
  n : Nat
  t : Tok
/-- the count of what lies ahead of the first end -/
def LoS (b : Bool) (row : List Dat) (n : Nat) : Prop := n ≤ row.length ∧ ∀ d ∈ row.take n, isE b d = false
theorem los0 {b : Bool} {row : List Dat} : LoS b row 0 := ⟨Nat.zero_le _, by simp⟩
theorem los_step {b : Bool} {row : List Dat} {n : Nat} {d : Dat} (h : LoS b row n) (hd : row[n]? = some d) (he : isE b d = false) : LoS b row (n + 1) := by
  have hl : n < row.length := (List.getElem?_eq_some_iff.mp hd).1
  refine ⟨hl, ?_⟩
  rw [List.take_add_one, hd]
  intro q hq
  rcases List.mem_append.mp hq with hq | hq
  · exact h.2 q hq
  · simp at hq; rw [hq]; exact he
theorem los_end {b : Bool} {row done row' : List Dat} {n : Nat} (h : LoS b row n) (hx : n = row.length ∨ ∃ d, row[n]? = some d ∧ isE b d = true) (hd : ∀ d ∈ done, isE b d = false)
  (hr : (row = done ∧ row' = []) ∨ ∃ d, row = done ++ d :: row' ∧ isE b d = true) : row.take n = done ∧ row.drop (n + 1) = row' := by
  rcases hr with ⟨rfl, rfl⟩ | ⟨e, rfl, he⟩
  · have hn : n = row.length := by
      rcases hx with hx | ⟨d, h1, h2⟩
      · exact hx
      · have := hd d (List.mem_of_getElem? h1)
        rw [h2] at this; cases this
    subst hn
    exact ⟨List.take_length, List.drop_of_length_le (by omega)⟩
  · have hn : n = done.length := by
      rcases Nat.lt_trichotomy n done.length with hlt | heq | hgt
      · rcases hx with hx | ⟨d, h1, h2⟩
        · simp at hx; omega
        · rw [List.getElem?_append_left hlt] at h1
          have := hd d (List.mem_of_getElem? h1)
          rw [h2] at this; cases this
      · exact heq
      · have h3 := h.2 e (by
          rw [List.take_append, List.take_of_length_le (by omega)]
          obtain ⟨k, hk⟩ : ∃ k, n - done.length = k + 1 := ⟨n - done.length - 1, by omega⟩
          rw [hk, List.take_succ_cons]
          simp)
        rw [he] at h3; cases h3
    subst hn
    simp
theorem wx_while {prog' : Program} {w : World} {A : Around} {E : Value → Shared → Prop} {Q : Flow → Shared → Prop} {s : Shared} {env : Env} {h₀ : Heap} {L : Addr} {σ : Type} {test : Expr} {body : List Stmt} {pos : Pos} {m₀ : Str → Option Value} (Led : σ → List (Addr × Obj)) (ps : σ → List (Str × Value)) (stored : List Str) (P Ex : σ → Prop) (μ : σ → Nat) (c₀ : σ)
    (F : Fr h₀ L s.heap m₀) (N : News h₀ L s.heap (Led c₀)) (hk : ∀ p ∈ ps c₀, m₀ p.1 = some p.2) (hp : P c₀)
    (turn : ∀ (c : σ) (u : Str → Option Value) h tk, P c → Fr h₀ L h (kstB (fun z => if stored.contains z then u z else m₀ z) (ps c)) → News h₀ L h (Led c) →
      wpAny (model prog' w) A (isTrue test env (eval test env)) (fun b s₂ =>
        if b = true then wpAny (model prog' w) A (execs body env) (WlPost h₀ L s Led ps stored m₀ P (fun _ => False) μ (μ c)) (fun _ _ => False) s₂ else WlAt h₀ L s Led ps stored m₀ Ex s₂) (fun _ _ => False) { s with heap := h, toks := tk })
    (after : ∀ (c : σ) (u : Str → Option Value) h tk, Ex c → Fr h₀ L h (kstB (fun z => if stored.contains z then u z else m₀ z) (ps c)) → News h₀ L h (Led c) → Q .next { s with heap := h, toks := tk }) :
    wpAny (model prog' w) A (exec (.While test body [] pos) env) Q E s := by
  refine wpAny_mono (Q := fun f s' => f = .next ∧ WlAt h₀ L s Led ps stored m₀ Ex s') (E := fun _ _ => False) ?_ (fun f s' hh => ?_) (fun _ _ hh => hh.elim)
  · refine While_inv2 (fun n m nx => ∃ c : σ, nx = Led c ∧ μ c = n ∧ (∀ p ∈ ps c, m p.1 = some p.2) ∧ (∀ z, (∀ p ∈ ps c, z ≠ p.1) → stored.contains z = false → m z = m₀ z) ∧ P c) F N ⟨c₀, rfl, rfl, hk, fun _ _ _ => rfl, hp⟩ ?_ PassesOwn.never
    rintro n m₁ nx h tk F₁ N₁ ⟨c, hnx, hsz, h1, h2, hp'⟩
    rw [hnx] at N₁
    rw [← hsz]
    refine wpAny_mono (turn c m₁ h tk hp' (ksw_fr h1 h2 F₁) N₁) (fun b s₂ p => ?_) fun _ _ x => x
    cases b with
    | false =>
      simp only [Bool.false_eq_true, if_false] at p ⊢
      exact ⟨by first | rfl | trivial, p⟩
    | true =>
      simp only [if_true] at p ⊢
      refine wpAny_mono p (fun f s₃ q => ?_) fun _ _ x => x
      cases f with
      | ret v => exact q.elim
      | brk =>
        obtain ⟨_, _, _, _, _, _, _, _, _, _, _, hf⟩ := q
        exact hf.elim
      | next =>
        obtain ⟨c', h', tk', m', news', rfl, F', N', hn, hk9, hr9, hp9, hm9⟩ := q
        exact ⟨h', tk', m', Led c', μ c', rfl, F', fun p hp => N' p (hn p hp), hm9, c', rfl, rfl, hk9, hr9, hp9⟩
      | cont =>
        obtain ⟨c', h', tk', m', news', rfl, F', N', hn, hk9, hr9, hp9, hm9⟩ := q
        exact ⟨h', tk', m', Led c', μ c', rfl, F', fun p hp => N' p (hn p hp), hm9, c', rfl, rfl, hk9, hr9, hp9⟩
  · obtain ⟨rfl, c', h', tk', m', news', rfl, F', N', hn, hk9, hr9, hb⟩ := hh
    exact after c' m' h' tk' hb (ksw_fr hk9 hr9 F') fun p hp => N' p (hn p hp)
theorem wx_k {m : Str → Option Value} {x : Str} {v : Value} : ∀ p ∈ [(x, v)], kstB m [(x, v)] p.1 = some p.2 := by
  intro p hp
  rw [List.mem_singleton.mp hp]
  exact if_pos rfl
theorem wx_n {u m : Str → Option Value} {x z : Str} {v : Value} (h : z ≠ x) : kstB (fun z => if ([] : List Str).contains z then u z else m z) [(x, v)] z = m z := (if_neg h).trans rfl
theorem lo_sub {x1 x2 x3 x4 x5 x6 r c i l d a b : Addr × Obj} : ∀ p ∈ [x1, x2, x3, x4, x5, x6] ++ [d, c, i, l], p ∈ d :: a :: b :: ([x1, x2, x3, x4, x5, x6] ++ [r, c, i, l]) := by
  intro p hp
  simp only [List.cons_append, List.nil_append, List.mem_cons, List.not_mem_nil, or_false] at hp ⊢
  rcases hp with h | h | h | h | h | h | h | h | h | h <;> simp [h]
theorem news_r3 {h₀ h : Heap} {L : Addr} {a b d : Addr × Obj} {A R : List (Addr × Obj)} (N : News h₀ L h (a :: b :: d :: (A ++ R))) : News h₀ L h (A ++ (R ++ [a, b, d])) := by
  intro p hp
  refine N p ?_
  simp only [List.mem_append, List.mem_cons, List.not_mem_nil, or_false] at hp ⊢
  rcases hp with h | h | h | h | h <;> simp [h]
theorem news_l3 {h₀ h : Heap} {L : Addr} {a b d : Addr × Obj} {A R : List (Addr × Obj)} (N : News h₀ L h (A ++ (R ++ [a, b, d]))) : News h₀ L h ([a, b, d] ++ (A ++ R)) := by
  intro p hp
  refine N p ?_
  simp only [List.mem_append, List.mem_cons, List.not_mem_nil, or_false] at hp ⊢
  rcases hp with (h | h | h) | h | h <;> simp [h]
theorem off_t5 {R ca I C D2 a : Addr} {o oc oI oC o2 : Obj} (h1 : @Ne Nat R a) (h2 : @Ne Nat ca a) (h : a ≠ I ∧ a ≠ C ∧ a ≠ D2) : ∀ p ∈ [(R, o), (ca, oc)] ++ [(I, oI), (C, oC), (D2, o2)], p.1 ≠ a := by
  intro p hp
  simp only [List.cons_append, List.nil_append, List.mem_cons, List.not_mem_nil, or_false] at hp
  rcases hp with rfl | rfl | rfl | rfl | rfl
  · exact h1
  · exact h2
  · exact Ne.symm h.1
  · exact Ne.symm h.2.1
  · exact Ne.symm h.2.2
/-- the size at the end of the inner loop -/
def LoX (b : Bool) (row : List Dat) (n : Nat) : Prop := LoS b row n ∧ (n = row.length ∨ ∃ d, row[n]? = some d ∧ isE b d = true)
theorem lo_tok {w : World} {A : Around} {E : Value → Shared → Prop} {s : Shared} {Q : Value → Shared → Prop} {h₀ : Heap} {L a : Addr} {news : List (Addr × Obj)} {value slice : Expr} {n : Int} {t1 t2 u : Tok} {lv : Value} {ld : Dat} {k : Nat} (N : News h₀ L s.heap news)
  (hm : (a, listOf [Value.str (Str.ofString "") t1, Value.none, Value.str (Str.ofString "a b") t2, lv].toArray k) ∈ news) (hl : DatIn [] lv ld) (hd : DOK ld) (h0 : 12 ≤ n) (h1 : n < 16) (h : ∀ v d, DatIn [] v d → DOK d → Q v s)
  (hs : subscripted slice false (.ref a) (.int (n - 12) u) = operate [.ref a, .int (n - 12) u] (getItem (.ref a) (.int (n - 12) u))) : wpAny (model prog w) A (subscriptTail value slice (.ref a) (.int (n - 12) u)) Q E s := by
  refine kd_item (ds := [.str (Str.ofString ""), .none, .str (Str.ofString "a b"), ld]) N hm (.cons (.str _ _) (.cons .none (.cons (.str _ _) (.cons hl .nil)))) (by omega) (by simp only [List.length_cons, List.length_nil]; omega) (by omega) (fun v d _ hm hv => h v d hv ?_) hs
  simp only [List.mem_cons, List.not_mem_nil, or_false] at hm
  rcases hm with rfl | rfl | rfl | rfl
  · exact ⟨.inr ⟨_, rfl⟩, by decide +kernel⟩
  · exact ⟨.inl rfl, by rfl⟩
  · exact ⟨.inr ⟨_, rfl⟩, by decide +kernel⟩
  · exact hd
theorem lo_ins {w : World} {A : Around} {E : Value → Shared → Prop} {s : Shared} {Q : Value → Shared → Prop} {h₀ : Heap} {L R : Addr} {m : Str → Option Value} {news news' : List (Addr × Obj)} {v : Value} {vs : List Value} {rk : Nat} {u : Tok} (F : Fr h₀ L s.heap m) (N : News h₀ L s.heap news)
  (U : Upd R (listOf vs.toArray rk) (listOf (v :: vs).toArray (rk + 1)) news news') (hz : vs.length ≤ 100000) (h : ∀ h', Fr h₀ L h' m → News h₀ L h' news' → Q .none { s with heap := h' }) : wpAny (model prog w) A (call (.builtin "list.insert") [.ref R, .int 0 u, v]) Q E s :=
  kl_insert (its := vs.toArray) (l := v :: vs) F N rfl (by simp [kl_ins]) U (by rw [PySem.sizeLine_eq]; simpa using Nat.le_trans hz (by decide)) h
theorem lxr_push {x : List Nat} {b : Bool} {c : LS} {row : List Dat} {v : Value} {d : Dat} (h : LxR x b c row) (hv : DatIn [] v d) : LxR x b ⟨c.sv, c.ln, c.tl, c.tok, c.tt, c.pos, c.tp, v :: c.pbs, c.pn + 1⟩ (d :: row) := by
  obtain ⟨st, rem, pd, h1, h2, h3, h4, h5, h6, h7⟩ := h
  exact ⟨st, rem, d :: pd, h1, h2, h3, h4, h5, .cons hv h6, by rw [h7]; rfl⟩
theorem len_few {w : World} {A : Around} {E : Value → Shared → Prop} {s : Shared} {h₀ : Heap} {L l : Addr} {news : List (Addr × Obj)} {vs : List Value} {k : Nat} {Q : Value → Shared → Prop} (N : News h₀ L s.heap news) (hm : (l, listOf vs.toArray k) ∈ news) (hv : vs.length ≤ 1000000)
    (h : Q (.int vs.length (s.toks + 1)) { s with toks := s.toks + 1 + 1 }) : wpAny (model prog w) A (call (.builtin "len") [.ref l]) Q E s :=
  call_len_list ⟨_, N.get hm, rfl, k, rfl⟩ (by simp; omega) (by simpa using h)
theorem new_few {w : World} {A : Around} {E : Value → Shared → Prop} {s : Shared} {h₀ : Heap} {L : Addr} {m : Str → Option Value} {news : List (Addr × Obj)} {vs : List Value} {Q : Value → Shared → Prop} (F : Fr h₀ L s.heap m) (N : News h₀ L s.heap news) (hv : vs.length ≤ 100)
    (h : ∀ l h', Fr h₀ L h' m → News h₀ L h' ((l, listOf vs.toArray 0) :: news) → (∀ p ∈ news, p.1 < l) → Q (.ref l) { s with heap := h' }) : wpAny (model prog w) A (newList vs) Q E s :=
  newList_K (hsz := Nat.le_trans hv (by decide +kernel)) F N h
theorem lo_item {w : World} {A : Around} {E : Value → Shared → Prop} {s : Shared} {Q : Value → Shared → Prop} {h₀ : Heap} {L a : Addr} {news : List (Addr × Obj)} {value slice : Expr} {n : Nat} {u : Tok} {vs : List Value} {row : List Dat} {k : Nat} (N : News h₀ L s.heap news)
  (hm : (a, listOf vs.toArray k) ∈ news) (hd : DatAll [] vs row) (h1 : n < row.length) (hz : row.length ≤ 100000) (h : ∀ v d, row[n]? = some d → d ∈ row → DatIn [] v d → Q v s)
  (hs : subscripted slice false (.ref a) (.int (n : Int) u) = operate [.ref a, .int (n : Int) u] (getItem (.ref a) (.int (n : Int) u))) : wpAny (model prog w) A (subscriptTail value slice (.ref a) (.int (n : Int) u)) Q E s :=
  kd_item N hm hd (by omega) (by omega) (by omega) (fun v d h1 h2 h3 => h v d (by simpa using h1) h2 h3) hs
theorem lo_same {w : World} {A : Around} {E : Value → Shared → Prop} {s : Shared} {Q : Value → Shared → Prop} {h₀ : Heap} {L a b' : Addr} {news : List (Addr × Obj)} {xs ys : List Value} {ds es : List Dat} {ka kb : Nat} (N : News h₀ L s.heap news) (ma : (a, listOf xs.toArray ka) ∈ news) (Da : DatAll [] xs ds) (mb : (b', listOf ys.toArray kb) ∈ news) (Db : DatAll [] ys es)
  (ha : ∀ d ∈ ds, DOK d) (hu : A.units + 64 < cLine) (e : es = ds) (h : Q (.bool false) s) : wpAny (model prog w) A (compareOp .NotEq (.ref a) (.ref b')) Q E s := by
  subst e
  refine kqd_ne (n₁ := []) (n₂ := []) N ma rfl rfl Da (fun p hp => absurd hp List.not_mem_nil) mb rfl rfl Db (fun p hp => absurd hp List.not_mem_nil) (fun d hd => (ha d hd).2) (fun d hd => (ha d hd).2) hu ?_
  simpa using h
theorem lo_eq {w : World} {A : Around} {E : Value → Shared → Prop} {s : Shared} {Q : Value → Shared → Prop} {h₀ : Heap} {L a b' : Addr} {news : List (Addr × Obj)} {xs ys : List Value} {ds es : List Dat} {ka kb : Nat} {oa : Obj} (N : News h₀ L s.heap news) (ma : (a, oa) ∈ news) (ca : oa.cls = .type "list") (da : oa.data = .seq xs.toArray ka) (Da : DatAll [] xs ds) (mb : (b', listOf ys.toArray kb) ∈ news) (Db : DatAll [] ys es)
  (ha : ∀ d ∈ ds, DOK d) (hu : A.units + 64 < cLine) (e : es = ds) (h : Q (.bool true) s) : wpAny (model prog w) A (compareOp .Eq (.ref a) (.ref b')) Q E s := by
  subst e
  refine kqd_eq (n₁ := []) (n₂ := []) N ma ca da Da (fun p hp => absurd hp List.not_mem_nil) mb rfl rfl Db (fun p hp => absurd hp List.not_mem_nil) (fun d hd => (ha d hd).2) (fun d hd => (ha d hd).2) hu ?_
  simpa using h
/-- the last row told -/
def M3I (x : List Nat) (b : Bool) (row : List Dat) (i : Nat) (c : LS) (ys : List Value) : Prop := LxR x b c (row.drop i) ∧ DatAll [] ys (row.take i ++ List.replicate (i - row.length) (datOf b []))
theorem m30 {x : List Nat} {b : Bool} {row : List Dat} {c : LS} (h : LxR x b c row) : M3I x b row 0 c [] := ⟨h, by simpa using DatAll.nil⟩
theorem m3_step {x : List Nat} {b : Bool} {row row' : List Dat} {ev v : Value} {i : Nat} {c c' : LS} {ys : List Value} (h : M3I x b row i c ys) (hE : EV b ev) (hR : LxR x b c' row') (hG : GotR ev (row.drop i) v row') : M3I x b row (i + 1) c' (ys ++ [v]) := by
  obtain ⟨h1, h2⟩ := h
  by_cases hlt : i < row.length
  · rw [List.drop_eq_getElem_cons hlt] at hG
    obtain ⟨g1, rfl⟩ := hG
    refine ⟨hR, ?_⟩
    have e4 : i - row.length = 0 := by omega
    have e5 : i + 1 - row.length = 0 := by omega
    rw [e4] at h2
    rw [e5, List.take_succ_eq_append_getElem hlt]
    simp only [List.replicate_zero, List.append_nil] at h2 ⊢
    exact h2.append (.cons g1 .nil)
  · have e0 : row.drop i = [] := List.drop_of_length_le (by omega)
    rw [e0] at hG
    obtain ⟨rfl, rfl⟩ := hG
    have e1 : row.drop (i + 1) = [] := List.drop_of_length_le (by omega)
    refine ⟨by rw [e1]; exact hR, ?_⟩
    have e5 : i + 1 - row.length = (i - row.length) + 1 := by omega
    rw [List.take_of_length_le (by omega)] at h2
    rw [e5, List.take_of_length_le (by omega), List.replicate_succ', ← List.append_assoc]
    exact h2.append (.cons (ev_dat hE) .nil)
theorem m3_done {x : List Nat} {b : Bool} {row : List Dat} {n : Nat} {c : LS} {ys : List Value} (h : M3I x b row n c ys) (hn : n = row.length + 2) : DatAll [] ys (row ++ [datOf b [], datOf b []]) := by
  have := h.2
  rw [hn, List.take_of_length_le (by omega)] at this
  have e : row.length + 2 - row.length = 2 := by omega
  rw [e] at this
  exact this
end
end Mine

end
local macro_rules | `(tactic| walk_at "execs nil") => `(tactic| (with_reducible refine wpAny_execs_nil ?_))
local macro_rules | `(tactic| walk_at "exec If") => `(tactic| ((try k_fold); with_reducible refine wpAny_If ?_))
local macro_rules | `(tactic| walk_at "ite") => `(tactic| first | with_reducible refine Mine.ite_t ?_ | with_reducible refine Mine.ite_f ?_)
local macro_rules | `(tactic| walk_at "execs cons") => `(tactic| ((try dsimp only); with_reducible refine wpAny_execs_cons ?_))
local macro_rules | `(tactic| walk_at "exec For Name BinOp cons nil") => `(tactic| (k_here; (rename Fr _ _ _ _ => lF'); (with_reducible refine For_invVF lF' ?k1 ?k2 ?_ ?k3 ?k4); (case k1 => exact rfl); (case k2 => exact rfl); (case k3 => exact fun _ => rfl); (case k4 => passes_own); k_whole))
local macro_rules | `(tactic| walk_at "callWith ref") => `(tactic| (k_here; first
  | ((with_reducible show wpAny _ _ (callWith _ _ _ (backTo _ (starEach [] _)) []) _ _ _); row_timed "R1c" (refine' callWith_K0 ?k1 ?k2 ?_); row_timed "R1k1" (case k1 => exact Frag.In.keeps (by with_reducible assumption) (Fr.keep (by assumption))); row_timed "R1k2" (case k2 => k_is); k_whole; (try dsimp only [List.nil_append, List.cons_append, List.append_nil]))
  | (row_timed "R2c" (refine' callWith_K ?k1 ?k2 ?_); row_timed "R2k1" (case k1 => k_asm); row_timed "R2k2" (case k2 => k_is); k_whole)))
namespace Mine
end Mine
namespace Mine
theorem free {goal_ : Prop} (a b c d e f g h i j k l m n o q r s t u v w x y z A B C D E F G H I J K L M N O P Q R S T U V W X Y Z e1 e2 e3 e4 e5 e6 e7 e8 e9 e10 k1 k2 k3 k4 k5 k6 k7 k8 k9 k10 k11 k12 k13 k14 k15 h1 h2 h3 h4 h5 h6 hr hp hi hv hz sz sub hQ hE hP hC hx ka kb : True) (rest_ : goal_) : goal_ := rest_
end Mine
theorem Mine.law_all.tw1861297953188256277 : True := trivial
theorem Mine.law_all.tw808926787595212315 : True := trivial
theorem Mine.law_all.tw14548401533875796570 : True := trivial
theorem Mine.law_all.tw2103784332974290115 : True := trivial
theorem Mine.law_all.tw11645036861229193933 : True := trivial
theorem Mine.law_all.tw12384212371979683370 : True := trivial
theorem Mine.law_all.tw12272814491482326452 : True := trivial
theorem Mine.law_all.tw9326504959393919199 : True := trivial
theorem Mine.law_all.tw6478741611622195713 : True := trivial
theorem Mine.law_all.tw17264329242000108839 : True := trivial
theorem Mine.law_all.tw17240311926567722313 : True := trivial
theorem Mine.law_all.tw15888606964102597316 : True := trivial
theorem Mine.law_all.tw5214331894307755913 : True := trivial
theorem Mine.law_all.tw6355135678535457092 : True := trivial
theorem Mine.law_all.tw12018720973117135595 : True := trivial
theorem Mine.law_all.tw4354770290612424148 : True := trivial
theorem Mine.law_all.tw6541656116107318362 : True := trivial
theorem Mine.law_all.tw13833317127055801060 : True := trivial
theorem Mine.law_all.tw9135970852051700672 : True := trivial
theorem Mine.law_all.tw2539981353633615827 : True := trivial
theorem Mine.law_all.tw7271922334478322552 : True := trivial
theorem Mine.law_all.tw1605926451748883982 : True := trivial
theorem Mine.law_all.tw7406990479455149028 : True := trivial
theorem Mine.law_all.tw12729013581757030507 : True := trivial
theorem Mine.law_all.tw4925756251787727867 : True := trivial
theorem Mine.law_all.tw11604076886869528917 : True := trivial
theorem Mine.law_all.tw17711649757482097080 : True := trivial
theorem Mine.law_all.tw3983192056104361193 : True := trivial
theorem Mine.law_all.tw13253971527945154862 : True := trivial
theorem Mine.law_all.tw9642360315720231220 : True := trivial
theorem Mine.law_all.tw13274840464982359763 : True := trivial
theorem Mine.law_all.tw15327138436386969399 : True := trivial
theorem Mine.law_all.tw15807664475251556305 : True := trivial
theorem Mine.law_all.tw14024095959683317476 : True := trivial
theorem Mine.law_all.tw12829037096407747505 : True := trivial
theorem Mine.law_all.tw7318158564511299729 : True := trivial
theorem Mine.law_all.tw4481082551865045004 : True := trivial
theorem Mine.law_all.tw17074971947010181610 : True := trivial
theorem Mine.law_all.tw10623982647197800651 : True := trivial
theorem Mine.law_all.tw10253732280001569212 : True := trivial
theorem Mine.law_all.tw15515702583689602614 : True := trivial
theorem Mine.law_all.tw16348121039232670680 : True := trivial
theorem Mine.law_all.tw12308792829718365582 : True := trivial
theorem Mine.law_all.tw1938755509981744232 : True := trivial
theorem Mine.law_all.tw14640322939972922974 : True := trivial
theorem Mine.law_all.tw8847300426190641854 : True := trivial
theorem Mine.law_all.tw15414137240233699022 : True := trivial
theorem Mine.law_all.tw15638214500589831823 : True := trivial
theorem Mine.law_all.tw6814774676840398217 : True := trivial
theorem Mine.law_all.tw4127830074780276483 : True := trivial
theorem Mine.law_all.tw10090999975856555344 : True := trivial
theorem Mine.law_all.tw8292125754366032315 : True := trivial
theorem Mine.law_all.tw5774103589672948085 : True := trivial
theorem Mine.law_all.tw14955915058466119356 : True := trivial
theorem Mine.law_all.tw2271960705470518616 : True := trivial
theorem Mine.law_all.tw2126261026752179203 : True := trivial
theorem Mine.law_all.tw550076807988554015 : True := trivial
theorem Mine.law_all.tw87554848720477697 : True := trivial
theorem Mine.law_all.tw18228451960930216718 : True := trivial
theorem Mine.law_all.tw1672642222964062884 : True := trivial
theorem Mine.law_all.tw15640896081885072018 : True := trivial
theorem Mine.law_all.tw10340441938079615943 : True := trivial
theorem Mine.law_all.tw9441140268209864922 : True := trivial
theorem Mine.law_all.tw8652508824891024273 : True := trivial
theorem Mine.law_all.tw16654605471950451980 : True := trivial
theorem Mine.law_all.tw11020806828292283134 : True := trivial
theorem Mine.law_all.tw9143542557157773347 : True := trivial
theorem Mine.law_all.tw4261436866732715612 : True := trivial
theorem Mine.law_all.tw8585119295471724657 : True := trivial
theorem Mine.law_all.tw8426454859378444244 : True := trivial
theorem Mine.law_all.tw8729561690571945798 : True := trivial
theorem Mine.law_all.tw14703302427499458811 : True := trivial
theorem Mine.law_all.tw6325109397354473172 : True := trivial
theorem Mine.law_all.tw11185291794543270386 : True := trivial
theorem Mine.law_all.tw2714459630560403676 : True := trivial
theorem Mine.law_all.tw6442390396111978729 : True := trivial
theorem Mine.law_all.tw9621619661464635597 : True := trivial
theorem Mine.law_all.tw12168520589393599259 : True := trivial
theorem Mine.law_all.tw742109610064614720 : True := trivial
theorem Mine.law_all.tw14967953119522679212 : True := trivial
theorem Mine.law_all.tw2744981985473423791 : True := trivial
theorem Mine.law_all.tw13048455256248648906 : True := trivial
theorem Mine.law_all.tw12308355309068749982 : True := trivial
theorem Mine.law_all.tw2252203913613538044 : True := trivial
theorem Mine.law_all.tw2534205154373081525 : True := trivial
theorem Mine.law_all.tw4710498895635838384 : True := trivial
theorem Mine.law_all.tw18260159938748754179 : True := trivial
theorem Mine.law_all.tw2454280419872470169 : True := trivial
theorem Mine.law_all.tw12078470571680310831 : True := trivial
theorem Mine.law_all.tw1270322770108976961 : True := trivial
theorem Mine.law_all.tw9144500139776326259 : True := trivial
theorem Mine.law_all.tw144113969167408035 : True := trivial
theorem Mine.law_all.tw12821476480046859578 : True := trivial
theorem Mine.law_all.tw8102590376130340518 : True := trivial
theorem Mine.law_all.tw13444409871249696073 : True := trivial
theorem Mine.law_all.tw2455935472648855358 : True := trivial
theorem Mine.law_all.tw13985060576507940359 : True := trivial
theorem Mine.law_all.tw7791439051762490624 : True := trivial
theorem Mine.law_all.tw2222952681925917930 : True := trivial
theorem Mine.law_all.tw11208032702916000851 : True := trivial
theorem Mine.law_all.tw13809103348235374114 : True := trivial
theorem Mine.law_all.tw1071026390990159442 : True := trivial
theorem Mine.law_all.tw12912951368749151951 : True := trivial
theorem Mine.law_all.tw12338384112835736923 : True := trivial
theorem Mine.law_all.tw16317050728709778059 : True := trivial
theorem Mine.law_all.tw49386822889696764 : True := trivial
theorem Mine.law_all.tw7913414452795691321 : True := trivial
theorem Mine.law_all.tw4182408002180818360 : True := trivial
theorem Mine.law_all.tw404534946110283943 : True := trivial
theorem Mine.law_all.tw11254592457914836137 : True := trivial
theorem Mine.law_all.tw11169120883424520007 : True := trivial
theorem Mine.law_all.tw16731210891918897592 : True := trivial
theorem Mine.law_all.tw14022319627245857414 : True := trivial
theorem Mine.law_all.tw11061263923128422616 : True := trivial
theorem Mine.law_all.tw14225962978905420208 : True := trivial
theorem Mine.law_all.tw3296963836593520940 : True := trivial
theorem Mine.law_all.tw10332199025257759670 : True := trivial
theorem Mine.law_all.tw10842723371336156597 : True := trivial
theorem Mine.law_all.tw13801121007944782333 : True := trivial
theorem Mine.law_all.tw12281828514994423027 : True := trivial
theorem Mine.law_all.tw1766896147755282778 : True := trivial
theorem Mine.law_all.tw569701484050765398 : True := trivial
theorem Mine.law_all.tw5355107437934412706 : True := trivial
theorem Mine.law_all.tw232006020691507172 : True := trivial
theorem Mine.law_all.tw7881162431508693036 : True := trivial
theorem Mine.law_all.tw16844301800673861149 : True := trivial
theorem Mine.law_all.tw11977895914950762854 : True := trivial
theorem Mine.law_all.tw17162081525036864674 : True := trivial
theorem Mine.law_all.tw5881413082840422312 : True := trivial
theorem Mine.law_all.tw17613353281601113540 : True := trivial
theorem Mine.law_all.tw8100261704194928128 : True := trivial
theorem Mine.law_all.tw12332833768631797781 : True := trivial
theorem Mine.law_all.tw4221142147964649119 : True := trivial
theorem Mine.law_all.tw3903515962272563663 : True := trivial
theorem Mine.law_all.tw15111771918000721386 : True := trivial
theorem Mine.law_all.tw5465242347971369183 : True := trivial
theorem Mine.law_all.tw5099097261256123588 : True := trivial
theorem Mine.law_all.tw121348372011856147 : True := trivial
theorem Mine.law_all.tw1376570501437681816 : True := trivial
theorem Mine.law_all.tw7574916185476446870 : True := trivial
theorem Mine.law_all.tw6422183658796698897 : True := trivial
theorem Mine.law_all.tw10517906790627618544 : True := trivial
theorem Mine.law_all.tw14264949915988352486 : True := trivial
theorem Mine.law_all.tw9065303865073120601 : True := trivial
theorem Mine.law_all.tw4638716497167235156 : True := trivial
theorem Mine.law_all.tw2560851641824476598 : True := trivial
theorem Mine.law_all.tw9906353361400467681 : True := trivial
theorem Mine.law_all.tw1126804568260048138 : True := trivial
theorem Mine.law_all.tw5123302808915844946 : True := trivial
theorem Mine.law_all.tw15102585243479572927 : True := trivial
theorem Mine.law_all.tw1819660966834464121 : True := trivial
theorem Mine.law_all.tw13760851721862378156 : True := trivial
theorem Mine.law_all.tw5810238935025566227 : True := trivial
theorem Mine.law_all.tw2289857599661718217 : True := trivial
theorem Mine.law_all.tw6550320685308687620 : True := trivial
theorem Mine.law_all.tw12613626564643572922 : True := trivial
theorem Mine.law_all.tw1213014688269875124 : True := trivial
theorem Mine.law_all.tw9310598725500422130 : True := trivial
theorem Mine.law_all.tw14222145142556662505 : True := trivial
theorem Mine.law_all.tw6974504298890653878 : True := trivial
theorem Mine.law_all.tw1592464377872422232 : True := trivial
theorem Mine.law_all.tw1618355861504449712 : True := trivial
theorem Mine.law_all.tw3826946535189723318 : True := trivial
theorem Mine.law_all.tw15994752243992478524 : True := trivial
theorem Mine.law_all.tw7570389025846386837 : True := trivial
theorem Mine.law_all.tw17135547795266049317 : True := trivial
theorem Mine.law_all.tw11509529326707108785 : True := trivial
theorem Mine.law_all.tw401616629055616331 : True := trivial
theorem Mine.law_all.tw3813577191599259775 : True := trivial
theorem Mine.law_all.tw2032630373190490227 : True := trivial
theorem Mine.law_all.tw17550541601872772917 : True := trivial
theorem Mine.law_all.tw10754805694788938509 : True := trivial
theorem Mine.law_all.tw941666048300869634 : True := trivial
theorem Mine.law_all.tw4446289913306456845 : True := trivial
theorem Mine.law_all.tw2546207491649054136 : True := trivial
theorem Mine.law_all.tw2924670171094740670 : True := trivial
theorem Mine.law_all.tw5542367601281971411 : True := trivial
theorem Mine.law_all.tw7780568949283567224 : True := trivial
theorem Mine.law_all.tw541292884143145059 : True := trivial
theorem Mine.law_all.tw2406078263742745528 : True := trivial
theorem Mine.law_all.tw2795527421740472226 : True := trivial
theorem Mine.law_all.tw15844257298622311405 : True := trivial
theorem Mine.law_all.tw17749092094045793073 : True := trivial
theorem Mine.law_all.tw15586044915557591662 : True := trivial
theorem Mine.law_all.tw10082115955702963577 : True := trivial
theorem Mine.law_all.tw15387212284789558141 : True := trivial
theorem Mine.law_all.tw11516134287502957769 : True := trivial
theorem Mine.law_all.tw9504067815950663498 : True := trivial
theorem Mine.law_all.tw15817104099244606467 : True := trivial
theorem Mine.law_all.tw3012268511640468390 : True := trivial
theorem Mine.law_all.tw8814184745475322185 : True := trivial
theorem Mine.law_all.tw12878576852180475762 : True := trivial
theorem Mine.law_all.tw9421408513443329588 : True := trivial
theorem Mine.law_all.tw17248258474559860081 : True := trivial
theorem Mine.law_all.tw4073406199993252850 : True := trivial
theorem Mine.law_all.tw17333561848662834254 : True := trivial
theorem Mine.law_all.tw5133684288058214382 : True := trivial
theorem Mine.law_all.tw10041133594965264650 : True := trivial
theorem Mine.law_all.tw15917809590553049049 : True := trivial
theorem Mine.law_all.tw1244168298268136379 : True := trivial
theorem Mine.law_all.tw2234524100257708063 : True := trivial
theorem Mine.law_all.tw6738363049555094938 : True := trivial
theorem Mine.law_all.tw16258484221863406547 : True := trivial
theorem Mine.law_all.tw298556003828902562 : True := trivial
theorem Mine.law_all.tw1536466687738809822 : True := trivial
theorem Mine.law_all.tw3116810793124868424 : True := trivial
theorem Mine.law_all.tw8864850031346182118 : True := trivial
theorem Mine.law_all.tw17962646048161934237 : True := trivial
theorem Mine.law_all.tw16903987867393959857 : True := trivial
theorem Mine.law_all.tw1988555749612562791 : True := trivial
theorem Mine.law_all.tw8631452304911163145 : True := trivial
theorem Mine.law_all.tw8192627400900402444 : True := trivial
theorem Mine.law_all.tw6394399434190074597 : True := trivial
theorem Mine.law_all.tw8665318985690784266 : True := trivial
theorem Mine.law_all.tw14692936392394494320 : True := trivial
theorem Mine.law_all.tw15041844750066439977 : True := trivial
theorem Mine.law_all.tw5606647511850069095 : True := trivial
theorem Mine.law_all.tw505844514383608538 : True := trivial
theorem Mine.law_all.tw1745867294719425553 : True := trivial
theorem Mine.law_all.tw15026446780328764363 : True := trivial
theorem Mine.law_all.tw13008198028515782221 : True := trivial
theorem Mine.law_all.tw13023151741414912232 : True := trivial
theorem Mine.law_all.tw14766775574214876319 : True := trivial
theorem Mine.law_all.tw9519570101095330979 : True := trivial
theorem Mine.law_all.tw8182643449472363497 : True := trivial
theorem Mine.law_all.tw2899457639284417968 : True := trivial
theorem Mine.law_all.tw9126654936404069527 : True := trivial
theorem Mine.law_all.tw308099982120028020 : True := trivial
theorem Mine.law_all.tw254210294449290986 : True := trivial
theorem Mine.law_all.tw753871570185349790 : True := trivial
theorem Mine.law_all.tw16819984471793681257 : True := trivial
theorem Mine.law_all.tw88744338008619462 : True := trivial
theorem Mine.law_all.tw16108003277724382137 : True := trivial
theorem Mine.law_all.tw2921730017392566355 : True := trivial
theorem Mine.law_all.tw10297145265793509435 : True := trivial
theorem Mine.law_all.tw14285781888347874446 : True := trivial
theorem Mine.law_all.tw1115970785884932992 : True := trivial
theorem Mine.law_all.tw7506031421445054254 : True := trivial
theorem Mine.law_all.tw185478952616494882 : True := trivial
theorem Mine.law_all.tw7517537711377488852 : True := trivial
theorem Mine.law_all.tw4493041973297072924 : True := trivial
theorem Mine.law_all.tw16378840673372724951 : True := trivial
theorem Mine.law_all.tw5457708884785321538 : True := trivial
theorem Mine.law_all.tw2662628459423469990 : True := trivial
theorem Mine.law_all.tw9005674034113058390 : True := trivial
theorem Mine.law_all.tw5126693611934764887 : True := trivial
theorem Mine.law_all.tw1908834790331025158 : True := trivial
theorem Mine.law_all.tw3275827474247852994 : True := trivial
theorem Mine.law_all.tw14512922981909422826 : True := trivial
theorem Mine.law_all.tw5105902913525381356 : True := trivial
theorem Mine.law_all.tw8373480759210339737 : True := trivial
theorem Mine.law_all.tw14929244992755822200 : True := trivial
theorem Mine.law_all.tw42735402098718572 : True := trivial
theorem Mine.law_all.tw50990029914848857 : True := trivial
theorem Mine.law_all.tw1134505771618074870 : True := trivial
theorem Mine.law_all.tw8408013158107128451 : True := trivial
theorem Mine.law_all.tw14690459059760270787 : True := trivial
theorem Mine.law_all.tw14599607153788883995 : True := trivial
theorem Mine.law_all.tw6471123649784635168 : True := trivial
theorem Mine.law_all.tw7089003446540823613 : True := trivial
theorem Mine.law_all.tw16280616582512762277 : True := trivial
theorem Mine.law_all.tw17025013958437641781 : True := trivial
theorem Mine.law_all.tw11072852086419898238 : True := trivial
theorem Mine.law_all.tw10589317585424288234 : True := trivial
theorem Mine.law_all.tw699081443379234643 : True := trivial
theorem Mine.law_all.tw13846950719819077829 : True := trivial
theorem Mine.law_all.tw6667596460715735799 : True := trivial
theorem Mine.law_all.tw17699220586243776058 : True := trivial
theorem Mine.law_all.tw5429858767254799258 : True := trivial
theorem Mine.law_all.tw7424173207631694637 : True := trivial
theorem Mine.law_all.tw17535888986555872392 : True := trivial
theorem Mine.law_all.tw18425384942027050804 : True := trivial
theorem Mine.law_all.tw12466342130767247577 : True := trivial
theorem Mine.law_all.tw4767241430983704032 : True := trivial
theorem Mine.law_all.tw9626924371936766941 : True := trivial
theorem Mine.law_all.tw17008558775933394028 : True := trivial
theorem Mine.law_all.tw1347740606709914761 : True := trivial
theorem Mine.law_all.tw13838683757722122955 : True := trivial
theorem Mine.law_all.tw15061830248806686431 : True := trivial
theorem Mine.law_all.tw5769454105433524467 : True := trivial
theorem Mine.law_all.tw4813512349449720863 : True := trivial
theorem Mine.law_all.tw6529279197570483795 : True := trivial
theorem Mine.law_all.tw9225959068197669698 : True := trivial
theorem Mine.law_all.tw9706086234395682267 : True := trivial
theorem Mine.law_all.tw10808177503072308079 : True := trivial
theorem Mine.law_all.tw9015332790510971594 : True := trivial
theorem Mine.law_all.tw4799799285233713263 : True := trivial
theorem Mine.law_all.tw4513022563276176288 : True := trivial
theorem Mine.law_all.tw12056103759676145562 : True := trivial
theorem Mine.law_all.tw11331813773473021967 : True := trivial
theorem Mine.law_all.tw1458131495679319933 : True := trivial
theorem Mine.law_all.tw11755048821886595345 : True := trivial
theorem Mine.law_all.tw10632998686855480601 : True := trivial
theorem Mine.law_all.tw13140779808272988157 : True := trivial
theorem Mine.law_all.tw5483578599265696199 : True := trivial
theorem Mine.law_all.tw15222793665863523046 : True := trivial
theorem Mine.law_all.tw5467091673537627360 : True := trivial
theorem Mine.law_all.tw16011759601916289475 : True := trivial
theorem Mine.law_all.tw18084503921448002766 : True := trivial
theorem Mine.law_all.tw1125080383469598763 : True := trivial
theorem Mine.law_all.tw6628267780710048319 : True := trivial
theorem Mine.law_all.tw7343335850631077457 : True := trivial
theorem Mine.law_all.tw10250544082008050651 : True := trivial
theorem Mine.law_all.tw623384496221371744 : True := trivial
theorem Mine.law_all.tw11276032279946435343 : True := trivial
theorem Mine.law_all.tw17139090271463625037 : True := trivial
theorem Mine.law_all.tw15404506543987917969 : True := trivial
theorem Mine.law_all.tw7219402698325937587 : True := trivial
theorem Mine.law_all.tw17628540532235563227 : True := trivial
theorem Mine.law_all.tw13528875618702146035 : True := trivial
theorem Mine.law_all.tw12509682125398910234 : True := trivial
theorem Mine.law_all.tw10427663710399940043 : True := trivial
theorem Mine.law_all.tw868222490149932729 : True := trivial
theorem Mine.law_all.tw7250216617388656809 : True := trivial
theorem Mine.law_all.tw3813564530132189172 : True := trivial
theorem Mine.law_all.tw4299841220277086336 : True := trivial
theorem Mine.law_all.tw7601383465899748548 : True := trivial
theorem Mine.law_all.tw3278616100580146713 : True := trivial
theorem Mine.law_all.tw13481792717815950801 : True := trivial
theorem Mine.law_all.tw14165149365823648315 : True := trivial
theorem Mine.law_all.tw10620959191045113335 : True := trivial
theorem Mine.law_all.tw10277864918451100114 : True := trivial
theorem Mine.law_all.tw12588457292089711807 : True := trivial
theorem Mine.law_all.tw5077807667812295140 : True := trivial
theorem Mine.law_all.tw3663503265976199116 : True := trivial
theorem Mine.law_all.tw2924756278709178009 : True := trivial
theorem Mine.law_all.tw13185898863257932480 : True := trivial
theorem Mine.law_all.tw5881403375008658740 : True := trivial
theorem Mine.law_all.tw15427931746332374070 : True := trivial
theorem Mine.law_all.tw17783994495123558372 : True := trivial
theorem Mine.law_all.tw3936332338030081361 : True := trivial
theorem Mine.law_all.tw1564792174963846901 : True := trivial
theorem Mine.law_all.tw11570621344050687362 : True := trivial
theorem Mine.law_all.tw5925129876391146066 : True := trivial
theorem Mine.law_all.tw7497220510776412333 : True := trivial
theorem Mine.law_all.tw7893887008874934858 : True := trivial
theorem Mine.law_all.tw147287198433707135 : True := trivial
theorem Mine.law_all.tw7664980124186717229 : True := trivial
theorem Mine.law_all.tw2906490581532596320 : True := trivial
theorem Mine.law_all.tw3416886346130291467 : True := trivial
theorem Mine.law_all.tw4520348996882111033 : True := trivial
theorem Mine.law_all.tw8351115422591919128 : True := trivial
theorem Mine.law_all.tw17657424406159520245 : True := trivial
theorem Mine.law_all.tw7697204384454675280 : True := trivial
theorem Mine.law_all.tw16724615851476500005 : True := trivial
theorem Mine.law_all.tw6275667225862918451 : True := trivial
theorem Mine.law_all.tw8406315387685492880 : True := trivial
theorem Mine.law_all.tw9496831969247301946 : True := trivial
theorem Mine.law_all.tw12104823046187114806 : True := trivial
theorem Mine.law_all.tw5719042974799534917 : True := trivial
theorem Mine.law_all.tw6645749129768185620 : True := trivial
theorem Mine.law_all.tw9447880567076979900 : True := trivial
theorem Mine.law_all.tw5923626274025043023 : True := trivial
theorem Mine.law_all.tw5332743953270975010 : True := trivial
theorem Mine.law_all.tw7902074397041296349 : True := trivial
theorem Mine.law_all.tw16554060013575348944 : True := trivial
theorem Mine.law_all.tw8552878003761168958 : True := trivial
theorem Mine.law_all.tw1343695993253210297 : True := trivial
theorem Mine.law_all.tw9726562403335934281 : True := trivial
theorem Mine.law_all.tw7791761455036148250 : True := trivial
theorem Mine.law_all.tw14745461692227509293 : True := trivial
theorem Mine.law_all.tw6372170185144319752 : True := trivial
theorem Mine.law_all.tw1526100267518658005 : True := trivial
theorem Mine.law_all.tw7028125823600010858 : True := trivial
theorem Mine.law_all.tw3692716606047857953 : True := trivial
theorem Mine.law_all.tw2425498562415444253 : True := trivial
theorem Mine.law_all.tw7647884552941119451 : True := trivial
theorem Mine.law_all.tw15680072974341577534 : True := trivial
theorem Mine.law_all.tw2617532451759129828 : True := trivial
theorem Mine.law_all.tw4767623398743609812 : True := trivial
theorem Mine.law_all.tw14396964315094823396 : True := trivial
theorem Mine.law_all.tw7765527865837770668 : True := trivial
theorem Mine.law_all.tw15955839384417658414 : True := trivial
theorem Mine.law_all.tw1479220743327157826 : True := trivial
theorem Mine.law_all.tw3560663033078476128 : True := trivial
theorem Mine.law_all.tw13312783184378385674 : True := trivial
theorem Mine.law_all.tw13814730616935933626 : True := trivial
theorem Mine.law_all.tw2018976290973465159 : True := trivial
theorem Mine.law_all.tw13050402135260733356 : True := trivial
theorem Mine.law_all.tw4629605032302363013 : True := trivial
theorem Mine.law_all.tw2897607846274201091 : True := trivial
theorem Mine.law_all.tw4116516876634802910 : True := trivial
theorem Mine.law_all.tw13786776866538912107 : True := trivial
theorem Mine.law_all.tw5143838461203301668 : True := trivial
theorem Mine.law_all.tw14484216793023953687 : True := trivial
theorem Mine.law_all.tw15816446151563789378 : True := trivial
theorem Mine.law_all.tw14381365239966274286 : True := trivial
theorem Mine.law_all.tw15991014356718627131 : True := trivial
theorem Mine.law_all.tw11378994670534948722 : True := trivial
theorem Mine.law_all.tw15693939393655280204 : True := trivial
theorem Mine.law_all.tw16903961797545972891 : True := trivial
theorem Mine.law_all.tw11945523544114663292 : True := trivial
theorem Mine.law_all.tw2310117848358827485 : True := trivial
theorem Mine.law_all.tw14783403437535847111 : True := trivial
theorem Mine.law_all.tw11195006048519719982 : True := trivial
theorem Mine.law_all.tw5306588570621787507 : True := trivial
theorem Mine.law_all.tw7897600568026276390 : True := trivial
theorem Mine.law_all.tw6829346939798277260 : True := trivial
theorem Mine.law_all.tw8378616637936851624 : True := trivial
theorem Mine.law_all.tw1264670296981799925 : True := trivial
theorem Mine.law_all.tw8921295990715661176 : True := trivial
theorem Mine.law_all.tw1909231634321623422 : True := trivial
theorem Mine.law_all.tw8515956640902208893 : True := trivial
theorem Mine.law_all.tw4875587917594351017 : True := trivial
theorem Mine.law_all.tw11655911931479345256 : True := trivial
theorem Mine.law_all.tw6513319782983348548 : True := trivial
theorem Mine.law_all.tw4048687063676348890 : True := trivial
theorem Mine.law_all.tw14829923604676511662 : True := trivial
theorem Mine.law_all.tw1899502164790749458 : True := trivial
theorem Mine.law_all.tw12911815244604103327 : True := trivial
theorem Mine.law_all.tw12162759631566370067 : True := trivial
theorem Mine.law_all.tw8093475581411736961 : True := trivial
theorem Mine.law_all.tw6514298221923599796 : True := trivial
theorem Mine.law_all.tw11126621595802289062 : True := trivial
theorem Mine.law_all.tw1200807466883419909 : True := trivial
theorem Mine.law_all.tw1702886262042523489 : True := trivial
theorem Mine.law_all.tw12427383291781161483 : True := trivial
theorem Mine.law_all.tw14200917436561629008 : True := trivial
theorem Mine.law_all.tw4298414287522497693 : True := trivial
theorem Mine.law_all.tw13284267574609153846 : True := trivial
theorem Mine.law_all.tw16081171039842257919 : True := trivial
theorem Mine.law_all.tw11821130883310013321 : True := trivial
theorem Mine.law_all.tw4468289917989545160 : True := trivial
theorem Mine.law_all.tw4800166454244708440 : True := trivial
theorem Mine.law_all.tw2337115943774737595 : True := trivial
theorem Mine.law_all.tw10425333190776739551 : True := trivial
theorem Mine.law_all.tw8496572883052770167 : True := trivial
theorem Mine.law_all.tw11950564495300238953 : True := trivial
theorem Mine.law_all.tw5947366203799548357 : True := trivial
theorem Mine.law_all.tw4706784108104460177 : True := trivial
theorem Mine.law_all.tw5285307726481897559 : True := trivial
theorem Mine.law_all.tw1733342002462095466 : True := trivial
theorem Mine.law_all.tw3243097391343231957 : True := trivial
theorem Mine.law_all.tw6068437695709350847 : True := trivial
theorem Mine.law_all.tw8689406086219333336 : True := trivial
theorem Mine.law_all.tw6038085552947697086 : True := trivial
theorem Mine.law_all.tw15146687380694534961 : True := trivial
theorem Mine.law_all.tw7690104695833144301 : True := trivial
theorem Mine.law_all.tw13323004776771469176 : True := trivial
theorem Mine.law_all.tw10092212651508181671 : True := trivial
theorem Mine.law_all.tw2413856156487422069 : True := trivial
theorem Mine.law_all.tw7320585726020715318 : True := trivial
theorem Mine.law_all.tw9729604732972894722 : True := trivial
theorem Mine.law_all.tw12039155985187861086 : True := trivial
theorem Mine.law_all.tw8925359147337055447 : True := trivial
theorem Mine.law_all.tw14573240092562081179 : True := trivial
theorem Mine.law_all.tw16687215388358468272 : True := trivial
theorem Mine.law_all.tw6231318655119160662 : True := trivial
theorem Mine.law_all.tw3630052323586450306 : True := trivial
theorem Mine.law_all.tw12415205634060267573 : True := trivial
theorem Mine.law_all.tw11344874559957333639 : True := trivial
theorem Mine.law_all.tw9885059535474818502 : True := trivial
theorem Mine.law_all.tw17769878892396552597 : True := trivial
theorem Mine.law_all.tw13055030038760251539 : True := trivial
theorem Mine.law_all.tw16132189220444017940 : True := trivial
theorem Mine.law_all.tw9682089725965795925 : True := trivial
theorem Mine.law_all.tw15516733807979383809 : True := trivial
theorem Mine.law_all.tw6592884879708733306 : True := trivial
theorem Mine.law_all.tw9837858002760397563 : True := trivial
theorem Mine.law_all.tw12078552371085240558 : True := trivial
theorem Mine.law_all.tw6775264209203825292 : True := trivial
theorem Mine.law_all.tw2818472761355251851 : True := trivial
theorem Mine.law_all.tw9055577570390366099 : True := trivial
theorem Mine.law_all.tw11161673737740280770 : True := trivial
theorem Mine.law_all.tw10699485395619107383 : True := trivial
theorem Mine.law_all.tw12095277606438711637 : True := trivial
theorem Mine.law_all.tw9193932539253619566 : True := trivial
theorem Mine.law_all.tw13880960847138548369 : True := trivial
theorem Mine.law_all.tw14384918623772240547 : True := trivial
theorem Mine.law_all.tw857312800663944748 : True := trivial
theorem Mine.law_all.tw9929707098585528879 : True := trivial
theorem Mine.law_all.tw17956888979338296214 : True := trivial
theorem Mine.law_all.tw3015541545424464467 : True := trivial
theorem Mine.law_all.tw15053150841094675366 : True := trivial
theorem Mine.law_all.tw8287017651184956003 : True := trivial
theorem Mine.law_all.tw17459176674885784516 : True := trivial
theorem Mine.law_all.tw13061075394575644761 : True := trivial
theorem Mine.law_all.tw6022211634629375331 : True := trivial
theorem Mine.law_all.tw12685006382546950688 : True := trivial
theorem Mine.law_all.tw11237757471492391802 : True := trivial
theorem Mine.law_all.tw1541181133342956825 : True := trivial
theorem Mine.law_all.tw3825936540422273863 : True := trivial
theorem Mine.law_all.tw12733668576097638289 : True := trivial
theorem Mine.law_all.tw14085601271495138652 : True := trivial
theorem Mine.law_all.tw11086646823923730572 : True := trivial
theorem Mine.law_all.tw14817745034569102223 : True := trivial
theorem Mine.law_all.tw6723525195617269812 : True := trivial
theorem Mine.law_all.tw9987792911408698340 : True := trivial
theorem Mine.law_all.tw1619606534716276043 : True := trivial
theorem Mine.law_all.tw13126924672156596446 : True := trivial
theorem Mine.law_all.tw18223944042725728250 : True := trivial
theorem Mine.law_all.tw12733029705023595350 : True := trivial
theorem Mine.law_all.tw10780945830723714241 : True := trivial
theorem Mine.law_all.tw4289236661132030044 : True := trivial
theorem Mine.law_all.tw9337859482809679654 : True := trivial
theorem Mine.law_all.tw5199301434253951998 : True := trivial
theorem Mine.law_all.tw1682832674239571567 : True := trivial
theorem Mine.law_all.tw14971921406432897392 : True := trivial
theorem Mine.law_all.tw4545471796157021838 : True := trivial
theorem Mine.law_all.tw17671693468899418834 : True := trivial
theorem Mine.law_all.tw2862211712955723747 : True := trivial
theorem Mine.law_all.tw4771868648470891126 : True := trivial
theorem Mine.law_all.tw1373718396076105583 : True := trivial
theorem Mine.law_all.tw12443848507722431881 : True := trivial
theorem Mine.law_all.tw4105255371170773908 : True := trivial
theorem Mine.law_all.tw7166755544651728111 : True := trivial
theorem Mine.law_all.tw697804852917623427 : True := trivial
theorem Mine.law_all.tw11379858719792009985 : True := trivial
theorem Mine.law_all.tw17699849718564567143 : True := trivial
theorem Mine.law_all.tw6649969067901403340 : True := trivial
theorem Mine.law_all.tw450456051597042649 : True := trivial
theorem Mine.law_all.tw11968179528029030403 : True := trivial
theorem Mine.law_all.tw616006375310393957 : True := trivial
theorem Mine.law_all.tw2432424846941410789 : True := trivial
theorem Mine.law_all.tw13977805788617109767 : True := trivial
theorem Mine.law_all.tw5961023722609971472 : True := trivial
theorem Mine.law_all.tw5386138778478946084 : True := trivial
theorem Mine.law_all.tw11973853004191696713 : True := trivial
theorem Mine.law_all.tw4787805881238422163 : True := trivial
theorem Mine.law_all.tw16364907183938773818 : True := trivial
theorem Mine.law_all.tw1006284481315042348 : True := trivial
theorem Mine.law_all.tw12719020962863150717 : True := trivial
theorem Mine.law_all.tw4316066407692741691 : True := trivial
theorem Mine.law_all.tw7385059913978287034 : True := trivial
theorem Mine.law_all.tw7837713855860009970 : True := trivial
theorem Mine.law_all.tw17606432771363783360 : True := trivial
theorem Mine.law_all.tw18098063318637971162 : True := trivial
theorem Mine.law_all.tw7206139752427571534 : True := trivial
theorem Mine.law_all.tw14404595031650566798 : True := trivial
theorem Mine.law_all.tw1166129813771130549 : True := trivial
theorem Mine.law_all.tw9895718714931393807 : True := trivial
theorem Mine.law_all.tw4054552316874386740 : True := trivial
theorem Mine.law_all.tw3806819470392062991 : True := trivial
theorem Mine.law_all.tw16084122824873582314 : True := trivial
theorem Mine.law_all.tw4310718505664016985 : True := trivial
theorem Mine.law_all.tw18243188635623463072 : True := trivial
theorem Mine.law_all.tw8352638903468824440 : True := trivial
theorem Mine.law_all.tw9098079959301702225 : True := trivial
theorem Mine.law_all.tw6236118766085468272 : True := trivial
theorem Mine.law_all.tw16669387040374730769 : True := trivial
theorem Mine.law_all.tw9350206980387211188 : True := trivial
theorem Mine.law_all.tw2754305514957794308 : True := trivial
theorem Mine.law_all.tw12055539081176029090 : True := trivial
theorem Mine.law_all.tw17894447663895493757 : True := trivial
theorem Mine.law_all.tw11566998951525393313 : True := trivial
theorem Mine.law_all.tw801417409540640141 : True := trivial
theorem Mine.law_all.tw17818739092667572935 : True := trivial
theorem Mine.law_all.tw8068670141169891791 : True := trivial
theorem Mine.law_all.tw14483480384061991028 : True := trivial
theorem Mine.law_all.tw3342747189937667127 : True := trivial
theorem Mine.law_all.tw1646534875598493178 : True := trivial
theorem Mine.law_all.tw6237928856598503754 : True := trivial
theorem Mine.law_all.tw9715068110327944835 : True := trivial
theorem Mine.law_all.tw17879881856010532143 : True := trivial
theorem Mine.law_all.tw14591837725140855343 : True := trivial
theorem Mine.law_all.tw16101399557488211435 : True := trivial
theorem Mine.law_all.tw14112813277465929817 : True := trivial
theorem Mine.law_all.tw17091725206767289263 : True := trivial
theorem Mine.law_all.tw10152195772459584916 : True := trivial
theorem Mine.law_all.tw11283148420750326516 : True := trivial
theorem Mine.law_all.tw7762748990098453861 : True := trivial
theorem Mine.law_all.tw9484003277438265565 : True := trivial
theorem Mine.law_all.tw15336482529451251379 : True := trivial
theorem Mine.law_all.tw7831887952337321200 : True := trivial
theorem Mine.law_all.tw17423994124011686517 : True := trivial
theorem Mine.law_all.tw18049563021733404900 : True := trivial
theorem Mine.law_all.tw2619257411496593575 : True := trivial
theorem Mine.law_all.tw8559622642134532576 : True := trivial
theorem Mine.law_all.tw10447141982152834051 : True := trivial
theorem Mine.law_all.tw10492806786580578284 : True := trivial
theorem Mine.law_all.tw17135403681668042812 : True := trivial
theorem Mine.law_all.tw8587321083128229445 : True := trivial
theorem Mine.law_all.tw14752512131158284028 : True := trivial
theorem Mine.law_all.tw11981917482434212799 : True := trivial
theorem Mine.law_all.tw14011421268284267096 : True := trivial
theorem Mine.law_all.tw5058365699104195747 : True := trivial
theorem Mine.law_all.tw11844059635380801397 : True := trivial
theorem Mine.law_all.tw14058198244844264512 : True := trivial
theorem Mine.law_all.tw18438550808169337630 : True := trivial
theorem Mine.law_all.tw12491990524712166927 : True := trivial
theorem Mine.law_all.tw644590359430075232 : True := trivial
theorem Mine.law_all.tw4663659113027530946 : True := trivial
theorem Mine.law_all.tw9101883533985367949 : True := trivial
theorem Mine.law_all.tw17382490019858277020 : True := trivial
theorem Mine.law_all.tw8990330740181145737 : True := trivial
theorem Mine.law_all.tw14976291558557332888 : True := trivial
theorem Mine.law_all.tw6064550380648306667 : True := trivial
theorem Mine.law_all.tw17073913150402608559 : True := trivial
theorem Mine.law_all.tw1536540366311737286 : True := trivial
theorem Mine.law_all.tw8175941863582059467 : True := trivial
theorem Mine.law_all.tw324088458086427686 : True := trivial
theorem Mine.law_all.tw10075033275381536440 : True := trivial
theorem Mine.law_all.tw9591321198607224848 : True := trivial
theorem Mine.law_all.tw10548317783181927485 : True := trivial
theorem Mine.law_all.tw10474069288783402820 : True := trivial
theorem Mine.law_all.tw2586092790497031182 : True := trivial
theorem Mine.law_all.tw7379131392961922385 : True := trivial
theorem Mine.law_all.tw10344729229328920165 : True := trivial
theorem Mine.law_all.tw14578468027487938174 : True := trivial
theorem Mine.law_all.tw13662883176790347504 : True := trivial
theorem Mine.law_all.tw390498358708893106 : True := trivial
theorem Mine.law_all.tw15362320644881486680 : True := trivial
theorem Mine.law_all.tw18074040619987095483 : True := trivial
theorem Mine.law_all.tw17313086474550658941 : True := trivial
theorem Mine.law_all.tw18031673381082608066 : True := trivial
theorem Mine.law_all.tw3426539022656043222 : True := trivial
theorem Mine.law_all.tw10437830444076844960 : True := trivial
theorem Mine.law_all.tw14086168745368120678 : True := trivial
theorem Mine.law_all.tw5196125583654719661 : True := trivial
theorem Mine.law_all.tw14991419344657449139 : True := trivial
theorem Mine.law_all.tw5040694191884385472 : True := trivial
theorem Mine.law_all.tw2791512771193701167 : True := trivial
theorem Mine.law_all.tw18272266722473543086 : True := trivial
theorem Mine.law_all.tw10132980813947130738 : True := trivial
theorem Mine.law_all.tw15186910425931473683 : True := trivial
theorem Mine.law_all.tw9281404008301498739 : True := trivial
theorem Mine.law_all.tw6311965134907485826 : True := trivial
theorem Mine.law_all.tw5914833246583547866 : True := trivial
theorem Mine.law_all.tw1748755634552202416 : True := trivial
theorem Mine.law_all.tw3728958221131766131 : True := trivial
theorem Mine.law_all.tw7382394883274062982 : True := trivial
theorem Mine.law_all.tw4783601065168354762 : True := trivial
theorem Mine.law_all.tw11986533732874898875 : True := trivial
theorem Mine.law_all.tw3933338468746785916 : True := trivial
theorem Mine.law_all.tw11739812003963863410 : True := trivial
theorem Mine.law_all.tw9758465039191818689 : True := trivial
theorem Mine.law_all.tw18235319390762920864 : True := trivial
theorem Mine.law_all.tw13699687274142533169 : True := trivial
theorem Mine.law_all.tw11887072702994114029 : True := trivial
theorem Mine.law_all.tw5368372463894450783 : True := trivial
theorem Mine.law_all.tw18236519589282089527 : True := trivial
theorem Mine.law_all.tw4665142225715192508 : True := trivial
theorem Mine.law_all.tw12012145143388645040 : True := trivial
theorem Mine.law_all.tw3764594079211352018 : True := trivial
theorem Mine.law_all.tw9405689241106513495 : True := trivial
theorem Mine.law_all.tw11615710364362942683 : True := trivial
theorem Mine.law_all.tw1756717570143565084 : True := trivial
theorem Mine.law_all.tw5453859960540951435 : True := trivial
theorem Mine.law_all.tw12644882131140162811 : True := trivial
theorem Mine.law_all.tw14600590696809855391 : True := trivial
theorem Mine.law_all.tw5409939720034131757 : True := trivial
theorem Mine.law_all.tw644193453371022997 : True := trivial
theorem Mine.law_all.tw5391715999942285979 : True := trivial
theorem Mine.law_all.tw10464263001826078911 : True := trivial
theorem Mine.law_all.tw10112902700007934811 : True := trivial
theorem Mine.law_all.tw1851005829296705102 : True := trivial
theorem Mine.law_all.tw12681778448758301329 : True := trivial
theorem Mine.law_all.tw16314742590276871135 : True := trivial
theorem Mine.law_all.tw10969439180591476309 : True := trivial
theorem Mine.law_all.tw16436836394604217106 : True := trivial
theorem Mine.law_all.tw12240263347232697027 : True := trivial
theorem Mine.law_all.tw7804374761869212844 : True := trivial
theorem Mine.law_all.tw4411415793883364592 : True := trivial
theorem Mine.law_all.tw456885184704423047 : True := trivial
theorem Mine.law_all.tw13211181752546427078 : True := trivial
theorem Mine.law_all.tw3284748957273996875 : True := trivial
theorem Mine.law_all.tw4969457626559569432 : True := trivial
theorem Mine.law_all.tw13680609273526107374 : True := trivial
theorem Mine.law_all.tw14236084546645660719 : True := trivial
theorem Mine.law_all.tw17547520148116901912 : True := trivial
theorem Mine.law_all.tw10806039510188334631 : True := trivial
theorem Mine.law_all.tw15671280296326744443 : True := trivial
theorem Mine.law_all.tw17215917983952657280 : True := trivial
theorem Mine.law_all.tw13491740491915545503 : True := trivial
theorem Mine.law_all.tw2631628752055362666 : True := trivial
theorem Mine.law_all.tw16371739260329825113 : True := trivial
theorem Mine.law_all.tw17669519193255119196 : True := trivial
theorem Mine.law_all.tw8399003694265948756 : True := trivial
theorem Mine.law_all.tw12703074045546933829 : True := trivial
theorem Mine.law_all.tw1668538180921589862 : True := trivial
theorem Mine.law_all.tw15546441815245403988 : True := trivial
theorem Mine.law_all.tw17060384074182460019 : True := trivial
theorem Mine.law_all.tw11194228370837134999 : True := trivial
theorem Mine.law_all.tw13531483092564520072 : True := trivial
theorem Mine.law_all.tw1542534431135467645 : True := trivial
theorem Mine.law_all.tw8305597428437692698 : True := trivial
theorem Mine.law_all.tw4881685112826633117 : True := trivial
theorem Mine.law_all.tw9112288994732759537 : True := trivial
theorem Mine.law_all.tw14662071744767229590 : True := trivial
theorem Mine.law_all.tw9385311596571155968 : True := trivial
theorem Mine.law_all.tw2224743311408289904 : True := trivial
theorem Mine.law_all.tw6564360385875737041 : True := trivial
theorem Mine.law_all.tw9058530902327166115 : True := trivial
theorem Mine.law_all.tw10024686837709580625 : True := trivial
theorem Mine.law_all.tw2225694422541459837 : True := trivial
theorem Mine.law_all.tw14598207043298650064 : True := trivial
theorem Mine.law_all.tw8765806042451288875 : True := trivial
theorem Mine.law_all.tw1487786111206980130 : True := trivial
theorem Mine.law_all.tw16745809935298821572 : True := trivial
theorem Mine.law_all.tw13104927337049522412 : True := trivial
theorem Mine.law_all.tw17737764639412749679 : True := trivial
theorem Mine.law_all.tw18180275025638004960 : True := trivial
theorem Mine.law_all.tw10470740866990187283 : True := trivial
theorem Mine.law_all.tw6755600590273672426 : True := trivial
theorem Mine.law_all.tw1294855798985786495 : True := trivial
theorem Mine.law_all.tw6157751959391354502 : True := trivial
theorem Mine.law_all.tw16768936007509957499 : True := trivial
theorem Mine.law_all.tw8518996810716976194 : True := trivial
theorem Mine.law_all.tw11085147635474315433 : True := trivial
theorem Mine.law_all.tw9815803367523510294 : True := trivial
theorem Mine.law_all.tw7757561431791933054 : True := trivial
theorem Mine.law_all.tw9437977712622912741 : True := trivial
theorem Mine.law_all.tw6438830307732024469 : True := trivial
theorem Mine.law_all.tw1696500276726984248 : True := trivial
theorem Mine.law_all.tw16118133896454242471 : True := trivial
theorem Mine.law_all.tw16371911816118071455 : True := trivial
theorem Mine.law_all.tw14966067393961270158 : True := trivial
theorem Mine.law_all.tw12610587468927266379 : True := trivial
theorem Mine.law_all.tw7290121776363987770 : True := trivial
theorem Mine.law_all.tw7227878493039989945 : True := trivial
theorem Mine.law_all.tw587449342414447963 : True := trivial
theorem Mine.law_all.tw7271498159299846290 : True := trivial
theorem Mine.law_all.tw17035568942905013000 : True := trivial
theorem Mine.law_all.tw7680916366514936674 : True := trivial
theorem Mine.law_all.tw10529780158634616513 : True := trivial
theorem Mine.law_all.tw12057113539981475253 : True := trivial
theorem Mine.law_all.tw11833566044642688545 : True := trivial
theorem Mine.law_all.tw15746133877532336623 : True := trivial
theorem Mine.law_all.tw16892600953724058444 : True := trivial
theorem Mine.law_all.tw782427809645370415 : True := trivial
theorem Mine.law_all.tw6237155331754066022 : True := trivial
theorem Mine.law_all.tw16741880675132489432 : True := trivial
theorem Mine.law_all.tw11911069920064303837 : True := trivial
theorem Mine.law_all.tw2113808404335124552 : True := trivial
theorem Mine.law_all.tw15076095784800757957 : True := trivial
theorem Mine.law_all.tw86908756275839534 : True := trivial
theorem Mine.law_all.tw7416931893851735294 : True := trivial
theorem Mine.law_all.tw12309555987426629805 : True := trivial
theorem Mine.law_all.tw13881306047427017735 : True := trivial
theorem Mine.law_all.tw3665484915411088083 : True := trivial
theorem Mine.law_all.tw5823586147374532853 : True := trivial
theorem Mine.law_all.tw10362440531411215723 : True := trivial
theorem Mine.law_all.tw13928278647878734309 : True := trivial
theorem Mine.law_all.tw4728599345574348774 : True := trivial
theorem Mine.law_all.tw2253686190644405003 : True := trivial
theorem Mine.law_all.tw2577563808611626836 : True := trivial
theorem Mine.law_all.tw1100412207481686545 : True := trivial
theorem Mine.law_all.tw391340077780216222 : True := trivial
theorem Mine.law_all.tw9019875401820227665 : True := trivial
theorem Mine.law_all.tw12507762813244862470 : True := trivial
theorem Mine.law_all.tw866766908457270551 : True := trivial
theorem Mine.law_all.tw3743276652137241584 : True := trivial
theorem Mine.law_all.tw4848548716629997264 : True := trivial
theorem Mine.law_all.tw2872085493576920064 : True := trivial
theorem Mine.law_all.tw3460432274578592446 : True := trivial
theorem Mine.law_all.tw13095150338055272814 : True := trivial
theorem Mine.law_all.tw16434993861110634532 : True := trivial
theorem Mine.law_all.tw11499723639459963570 : True := trivial
theorem Mine.law_all.tw16962350897556312332 : True := trivial
theorem Mine.law_all.tw17208948692691691804 : True := trivial
theorem Mine.law_all.tw12230927248747617965 : True := trivial
theorem Mine.law_all.tw11806459468589365706 : True := trivial
theorem Mine.law_all.tw2746415857694854958 : True := trivial
theorem Mine.law_all.tw10754601566845926611 : True := trivial
theorem Mine.law_all.tw18069371669798473238 : True := trivial
theorem Mine.law_all.tw7358765618238378763 : True := trivial
theorem Mine.law_all.tw7119508329715715523 : True := trivial
theorem Mine.law_all.tw1325725505073848231 : True := trivial
theorem Mine.law_all.tw4011130107991819787 : True := trivial
theorem Mine.law_all.tw7241301525396740710 : True := trivial
theorem Mine.law_all.tw12742291788480804056 : True := trivial
theorem Mine.law_all.tw12303014915382014946 : True := trivial
theorem Mine.law_all.tw11953936395949465439 : True := trivial
theorem Mine.law_all.tw6456847839567275990 : True := trivial
theorem Mine.law_all.tw7035262430463298820 : True := trivial
theorem Mine.law_all.tw12051850038722144316 : True := trivial
theorem Mine.law_all.tw289511000256421866 : True := trivial
theorem Mine.law_all.tw13697446050514408011 : True := trivial
theorem Mine.law_all.tw8259473591719373357 : True := trivial
theorem Mine.law_all.tw796818876455020728 : True := trivial
theorem Mine.law_all.tw13515836412680247291 : True := trivial
theorem Mine.law_all.tw16838179679014408406 : True := trivial
theorem Mine.law_all.tw2465578340897827915 : True := trivial
theorem Mine.law_all.tw14169471996915453906 : True := trivial
theorem Mine.law_all.tw15988576510117618290 : True := trivial
theorem Mine.law_all.tw3263060017730090603 : True := trivial
theorem Mine.law_all.tw4373205857372294398 : True := trivial
theorem Mine.law_all.tw6039264787345505811 : True := trivial
theorem Mine.law_all.tw1195523087049108795 : True := trivial
theorem Mine.law_all.tw7090190583926799169 : True := trivial
theorem Mine.law_all.tw670697118951388126 : True := trivial
theorem Mine.law_all.tw4338267340049963969 : True := trivial
theorem Mine.law_all.tw6397261156675118401 : True := trivial
theorem Mine.law_all.tw6281480290983300618 : True := trivial
theorem Mine.law_all.tw571745101423254476 : True := trivial
theorem Mine.law_all.tw13763162616901922433 : True := trivial
theorem Mine.law_all.tw8961255980978662838 : True := trivial
theorem Mine.law_all.tw8053974599713079812 : True := trivial
theorem Mine.law_all.tw18299426437183154797 : True := trivial
theorem Mine.law_all.tw7911531064090814180 : True := trivial
theorem Mine.law_all.tw1556948465960636121 : True := trivial
theorem Mine.law_all.tw937055499877386264 : True := trivial
theorem Mine.law_all.tw16759230557537464115 : True := trivial
theorem Mine.law_all.tw866564066945910344 : True := trivial
theorem Mine.law_all.tw17198419215744740974 : True := trivial
theorem Mine.law_all.tw4142882797520435500 : True := trivial
theorem Mine.law_all.tw2506844670610910573 : True := trivial
theorem Mine.law_all.tw15982079766070313398 : True := trivial
theorem Mine.law_all.tw8347406222979154285 : True := trivial
theorem Mine.law_all.tw5315506903917589002 : True := trivial
theorem Mine.law_all.tw9462809283271141762 : True := trivial
theorem Mine.law_all.tw9056655903479792236 : True := trivial
theorem Mine.law_all.tw11811711451108638055 : True := trivial
theorem Mine.law_all.tw7521826775273887693 : True := trivial
theorem Mine.law_all.tw15894988515832802272 : True := trivial
theorem Mine.law_all.tw8937883705780218553 : True := trivial
theorem Mine.law_all.tw5515175385397997255 : True := trivial
theorem Mine.law_all.tw13573102627690589801 : True := trivial
theorem Mine.law_all.tw1703305540711997886 : True := trivial
theorem Mine.law_all.tw2763200530551224835 : True := trivial
theorem Mine.law_all.tw3602784471345507114 : True := trivial
theorem Mine.law_all.tw2885707341163702077 : True := trivial
theorem Mine.law_all.tw1408806660432250928 : True := trivial
theorem Mine.law_all.tw2981204530259232531 : True := trivial
theorem Mine.law_all.tw10225563509869545966 : True := trivial
theorem Mine.law_all.tw7213851623774115239 : True := trivial
theorem Mine.law_all.tw3877723044392924569 : True := trivial
theorem Mine.law_all.tw15740732772335265587 : True := trivial
theorem Mine.law_all.tw16413752452701970063 : True := trivial
theorem Mine.law_all.tw1189080093081105346 : True := trivial
theorem Mine.law_all.tw9847930118418132646 : True := trivial
theorem Mine.law_all.tw3498384184797677056 : True := trivial
theorem Mine.law_all.tw8723218627587633102 : True := trivial
theorem Mine.law_all.tw16693345006668779598 : True := trivial
theorem Mine.law_all.tw11407212017213923087 : True := trivial
theorem Mine.law_all.tw5945882358115643694 : True := trivial
theorem Mine.law_all.tw14816879207175617225 : True := trivial
theorem Mine.law_all.tw18313445508184284481 : True := trivial
theorem Mine.law_all.tw8059288581424842436 : True := trivial
theorem Mine.law_all.tw11779399842900871346 : True := trivial
theorem Mine.law_all.tw11628095284720837169 : True := trivial
theorem Mine.law_all.tw2202764407437257358 : True := trivial
theorem Mine.law_all.tw7672995546314809169 : True := trivial
theorem Mine.law_all.tw3573340081450625464 : True := trivial
theorem Mine.law_all.tw11575233253633470811 : True := trivial
theorem Mine.law_all.tw4449761216389261190 : True := trivial
theorem Mine.law_all.tw17118986888630616858 : True := trivial
theorem Mine.law_all.tw1684386024576819110 : True := trivial
theorem Mine.law_all.tw6160080969221487542 : True := trivial
theorem Mine.law_all.tw17213219829386642084 : True := trivial
theorem Mine.law_all.tw14100515932553792916 : True := trivial
theorem Mine.law_all.tw7296818474457393607 : True := trivial
theorem Mine.law_all.tw9389932311233280350 : True := trivial
theorem Mine.law_all.tw11370059905445811129 : True := trivial
theorem Mine.law_all.tw9697324461614764831 : True := trivial
theorem Mine.law_all.tw14680051335654784553 : True := trivial
theorem Mine.law_all.tw12415261661798453589 : True := trivial
theorem Mine.law_all.tw4438399736822516121 : True := trivial
theorem Mine.law_all.tw11780552165158174459 : True := trivial
theorem Mine.law_all.tw12880530043633816451 : True := trivial
theorem Mine.law_all.tw6352045179492744985 : True := trivial
theorem Mine.law_all.tw2472384424244870459 : True := trivial
theorem Mine.law_all.tw13760747126890918739 : True := trivial
theorem Mine.law_all.tw13522768611430641604 : True := trivial
theorem Mine.law_all.tw16385951753907185183 : True := trivial
theorem Mine.law_all.tw4810359999024667066 : True := trivial
theorem Mine.law_all.tw7539104779076750295 : True := trivial
theorem Mine.law_all.tw8718603462263403589 : True := trivial
theorem Mine.law_all.tw15275527861284700546 : True := trivial
theorem Mine.law_all.tw43822206185756307 : True := trivial
theorem Mine.law_all.tw12942184054927948311 : True := trivial
theorem Mine.law_all.tw14007897523862953668 : True := trivial
theorem Mine.law_all.tw15743857825236497588 : True := trivial
theorem Mine.law_all.tw17115713224241774592 : True := trivial
theorem Mine.law_all.tw6378717016339408911 : True := trivial
theorem Mine.law_all.tw18019929789766518222 : True := trivial
theorem Mine.law_all.tw11541454027444291867 : True := trivial
theorem Mine.law_all.tw3777453917453456667 : True := trivial
theorem Mine.law_all.tw16850067431916028951 : True := trivial
theorem Mine.law_all.tw51366843150158886 : True := trivial
theorem Mine.law_all.tw6281336798887741830 : True := trivial
theorem Mine.law_all.tw15817853144674484978 : True := trivial
theorem Mine.law_all.tw7565920113569585601 : True := trivial
theorem Mine.law_all.tw1224010249265392569 : True := trivial
theorem Mine.law_all.tw15256493282736253867 : True := trivial
theorem Mine.law_all.tw540954306642092798 : True := trivial
theorem Mine.law_all.tw11819635365892184359 : True := trivial
theorem Mine.law_all.tw6801470937092483863 : True := trivial
theorem Mine.law_all.tw17516141867632195740 : True := trivial
theorem Mine.law_all.tw14435836088163181261 : True := trivial
theorem Mine.law_all.tw2174520888648116866 : True := trivial
theorem Mine.law_all.tw13509177966542993873 : True := trivial
theorem Mine.law_all.tw1115311737908471259 : True := trivial
theorem Mine.law_all.tw14232367337319313231 : True := trivial
theorem Mine.law_all.tw5962365601980372440 : True := trivial
theorem Mine.law_all.tw18198261566025488028 : True := trivial
theorem Mine.law_all.tw13367176642022358155 : True := trivial
theorem Mine.law_all.tw15753174923161979217 : True := trivial
theorem Mine.law_all.tw2726533656112109469 : True := trivial
theorem Mine.law_all.tw12623802867859471158 : True := trivial
theorem Mine.law_all.tw15696156366995490489 : True := trivial
theorem Mine.law_all.tw13794602993731048600 : True := trivial
theorem Mine.law_all.tw3358472159093845929 : True := trivial
theorem Mine.law_all.tw4357118453508938140 : True := trivial
theorem Mine.law_all.tw17188035321649709614 : True := trivial
theorem Mine.law_all.tw13456863692723816207 : True := trivial
theorem Mine.law_all.tw13226558852768949244 : True := trivial
theorem Mine.law_all.tw865885312489698057 : True := trivial
theorem Mine.law_all.tw1172793060472301760 : True := trivial
theorem Mine.law_all.tw18369321035705266579 : True := trivial
theorem Mine.law_all.tw1961576592547977382 : True := trivial
theorem Mine.law_all.tw7702720457695366031 : True := trivial
theorem Mine.law_all.tw5564237334548157303 : True := trivial
theorem Mine.law_all.tw10300875812035996732 : True := trivial
theorem Mine.law_all.tw1178986762315405437 : True := trivial
theorem Mine.law_all.tw10221997122443297352 : True := trivial
theorem Mine.law_all.tw12760510453615215998 : True := trivial
theorem Mine.law_all.tw2431311244206744821 : True := trivial
theorem Mine.law_all.tw13523418062013228558 : True := trivial
theorem Mine.law_all.tw4625211604613518413 : True := trivial
theorem Mine.law_all.tw1407716047416726741 : True := trivial
theorem Mine.law_all.tw10565121375587587042 : True := trivial
theorem Mine.law_all.tw14174517074612190596 : True := trivial
theorem Mine.law_all.tw16768144245005235482 : True := trivial
theorem Mine.law_all.tw1682840521854849442 : True := trivial
theorem Mine.law_all.tw6463489072841894807 : True := trivial
theorem Mine.law_all.tw3325111520719290175 : True := trivial
theorem Mine.law_all.tw10575808222751662728 : True := trivial
theorem Mine.law_all.tw11681217401251675389 : True := trivial
theorem Mine.law_all.tw8810399088073249494 : True := trivial
theorem Mine.law_all.tw13685136416335799533 : True := trivial
theorem Mine.law_all.tw18383949787495555429 : True := trivial
theorem Mine.law_all.tw17386547048453696860 : True := trivial
theorem Mine.law_all.tw3050570416659367537 : True := trivial
theorem Mine.law_all.tw7701153426736177974 : True := trivial
theorem Mine.law_all.tw5403677533733193846 : True := trivial
theorem Mine.law_all.tw906757414912418612 : True := trivial
theorem Mine.law_all.tw12836747770095448064 : True := trivial
theorem Mine.law_all.tw8618336906785351942 : True := trivial
theorem Mine.law_all.tw581509044858899661 : True := trivial
theorem Mine.law_all.tw8755279341700096616 : True := trivial
theorem Mine.law_all.tw4959470712613272833 : True := trivial
theorem Mine.law_all.tw13066556902979482641 : True := trivial
theorem Mine.law_all.tw7163010275520755743 : True := trivial
theorem Mine.law_all.tw1288270072008814257 : True := trivial
theorem Mine.law_all.tw5480159453071252461 : True := trivial
theorem Mine.law_all.tw357486453476387696 : True := trivial
theorem Mine.law_all.tw10972643930856128791 : True := trivial
theorem Mine.law_all.tw35717200308832025 : True := trivial
theorem Mine.law_all.tw6851157634355297669 : True := trivial
theorem Mine.law_all.tw3740185271146487245 : True := trivial
theorem Mine.law_all.tw12534027776361810370 : True := trivial
theorem Mine.law_all.tw2965987889837986908 : True := trivial
theorem Mine.law_all.tw17311543511305506410 : True := trivial
theorem Mine.law_all.tw12795914074852961918 : True := trivial
theorem Mine.law_all.tw9429942708143374130 : True := trivial
theorem Mine.law_all.tw17969530034244639028 : True := trivial
theorem Mine.law_all.tw8295653638501232855 : True := trivial
theorem Mine.law_all.tw8564888430778796407 : True := trivial
theorem Mine.law_all.tw15796676433106474108 : True := trivial
theorem Mine.law_all.tw14115007137499183204 : True := trivial
theorem Mine.law_all.tw13984151417817525133 : True := trivial
theorem Mine.law_all.tw2747623398821866450 : True := trivial
theorem Mine.law_all.tw13707208606822203510 : True := trivial
theorem Mine.law_all.tw7564772252293548769 : True := trivial
theorem Mine.law_all.tw17821587149742552891 : True := trivial
theorem Mine.law_all.tw16829598718399601788 : True := trivial
theorem Mine.law_all.tw18115598367602769801 : True := trivial
theorem Mine.law_all.tw15353343082906663676 : True := trivial
theorem Mine.law_all.tw2238069962009214901 : True := trivial
theorem Mine.law_all.tw7914111920488281241 : True := trivial
theorem Mine.law_all.tw15175368528575537740 : True := trivial
theorem Mine.law_all.tw1584610834578658081 : True := trivial
theorem Mine.law_all.tw17382168826583583937 : True := trivial
theorem Mine.law_all.tw17824699565076465075 : True := trivial
theorem Mine.law_all.tw13955646682027860996 : True := trivial
theorem Mine.law_all.tw11527891035238042781 : True := trivial
theorem Mine.law_all.tw14998430357298625318 : True := trivial
theorem Mine.law_all.tw4312221214654303245 : True := trivial
theorem Mine.law_all.tw12852575843583276402 : True := trivial
theorem Mine.law_all.tw2558263876058320549 : True := trivial
theorem Mine.law_all.tw9793429609119093069 : True := trivial
theorem Mine.law_all.tw2891144412967124082 : True := trivial
theorem Mine.law_all.tw11008839944985332601 : True := trivial
theorem Mine.law_all.tw9000883745109673501 : True := trivial
theorem Mine.law_all.tw10486281728991561039 : True := trivial
theorem Mine.law_all.tw15313853814466723436 : True := trivial
theorem Mine.law_all.tw11666791612657790110 : True := trivial
theorem Mine.law_all.tw13288071306723581143 : True := trivial
theorem Mine.law_all.tw2812987420286402142 : True := trivial
theorem Mine.law_all.tw7518268271031788722 : True := trivial
theorem Mine.law_all.tw4198061620403395136 : True := trivial
theorem Mine.law_all.tw4270512862863035808 : True := trivial
theorem Mine.law_all.tw7032130934624792205 : True := trivial
theorem Mine.law_all.tw11266150474529332087 : True := trivial
theorem Mine.law_all.tw7810743181515291045 : True := trivial
theorem Mine.law_all.tw16371026202757247076 : True := trivial
theorem Mine.law_all.tw14306978333734412998 : True := trivial
theorem Mine.law_all.tw374766727668220859 : True := trivial
theorem Mine.law_all.tw5495784557159034327 : True := trivial
theorem Mine.law_all.tw17381011072343130446 : True := trivial
theorem Mine.law_all.tw18084819778460367582 : True := trivial
theorem Mine.law_all.tw10562567905742353873 : True := trivial
theorem Mine.law_all.tw8803404886157929299 : True := trivial
theorem Mine.law_all.tw10427768884268684552 : True := trivial
theorem Mine.law_all.tw14437242743615798716 : True := trivial
theorem Mine.law_all.tw14300270879109701445 : True := trivial
theorem Mine.law_all.tw13581327203777572028 : True := trivial
theorem Mine.law_all.tw11156016171303442314 : True := trivial
theorem Mine.law_all.tw13989974958611873218 : True := trivial
theorem Mine.law_all.tw12620598019160589179 : True := trivial
theorem Mine.law_all.tw645013614473375241 : True := trivial
theorem Mine.law_all.tw8836462397961589918 : True := trivial
theorem Mine.law_all.tw15955814874369106537 : True := trivial
theorem Mine.law_all.tw11587524997120335971 : True := trivial
theorem Mine.law_all.tw5407152262560994199 : True := trivial
theorem Mine.law_all.tw1038885855152599283 : True := trivial
theorem Mine.law_all.tw8858638111541304496 : True := trivial
theorem Mine.law_all.tw7757124845224084579 : True := trivial
theorem Mine.law_all.tw14142368258859480080 : True := trivial
theorem Mine.law_all.tw14542363982340305098 : True := trivial
theorem Mine.law_all.tw18437768301239656569 : True := trivial
theorem Mine.law_all.tw7297819598837024618 : True := trivial
theorem Mine.law_all.tw3896677248486430384 : True := trivial
theorem Mine.law_all.tw9741297799410488584 : True := trivial
theorem Mine.law_all.tw10143031176177733864 : True := trivial
theorem Mine.law_all.tw711021382710547372 : True := trivial
theorem Mine.law_all.tw15877617104253876215 : True := trivial
theorem Mine.law_all.tw17831633481768180021 : True := trivial
theorem Mine.law_all.tw11464865452401227656 : True := trivial
theorem Mine.law_all.tw9730515428898209248 : True := trivial
theorem Mine.law_all.tw11421492830896010466 : True := trivial
theorem Mine.law_all.tw15106878835201008470 : True := trivial
theorem Mine.law_all.tw4218093189155465367 : True := trivial
theorem Mine.law_all.tw16994514146051193508 : True := trivial
theorem Mine.law_all.tw15775596325662777338 : True := trivial
theorem Mine.law_all.tw11373430062764667247 : True := trivial
theorem Mine.law_all.tw3049941219963327188 : True := trivial
theorem Mine.law_all.tw16625629747186990877 : True := trivial
theorem Mine.law_all.tw6818535541638068524 : True := trivial
theorem Mine.law_all.tw3944966475094738777 : True := trivial
theorem Mine.law_all.tw17964100949573051663 : True := trivial
theorem Mine.law_all.tw2919649542600381882 : True := trivial
theorem Mine.law_all.tw15090710645362110852 : True := trivial
theorem Mine.law_all.tw5234447947421495549 : True := trivial
theorem Mine.law_all.tw7817977360859998167 : True := trivial
theorem Mine.law_all.tw265244927588178289 : True := trivial
theorem Mine.law_all.tw10586219493256288171 : True := trivial
theorem Mine.law_all.tw7554247435833788720 : True := trivial
theorem Mine.law_all.tw10423822332596533971 : True := trivial
theorem Mine.law_all.tw11090485264053204359 : True := trivial
theorem Mine.law_all.tw3669051535078491162 : True := trivial
theorem Mine.law_all.tw18135408350670230780 : True := trivial
theorem Mine.law_all.tw10938250296463516022 : True := trivial
theorem Mine.law_all.tw17461023701970706658 : True := trivial
theorem Mine.law_all.tw196974008228917347 : True := trivial
theorem Mine.law_all.tw14831206303057345538 : True := trivial
theorem Mine.law_all.tw7247926347573934118 : True := trivial
theorem Mine.law_all.tw7224549994232214638 : True := trivial
theorem Mine.law_all.tw15121837243256198043 : True := trivial
theorem Mine.law_all.tw8410422384732016249 : True := trivial
theorem Mine.law_all.tw7188791813448049371 : True := trivial
theorem Mine.law_all.tw10416063536870402424 : True := trivial
theorem Mine.law_all.tw2982699944288580842 : True := trivial
theorem Mine.law_all.tw10635536241202982537 : True := trivial
theorem Mine.law_all.tw4607750278909125284 : True := trivial
theorem Mine.law_all.tw2135314059674174450 : True := trivial
theorem Mine.law_all.tw9992796612143662886 : True := trivial
theorem Mine.law_all.tw13446384164382990572 : True := trivial
theorem Mine.law_all.tw8820261365336496098 : True := trivial
theorem Mine.law_all.tw14636622166468137105 : True := trivial
theorem Mine.law_all.tw14969216848811132704 : True := trivial
theorem Mine.law_all.tw4469509312023483314 : True := trivial
theorem Mine.law_all.tw3241033389818516246 : True := trivial
theorem Mine.law_all.tw10240734782212473332 : True := trivial
theorem Mine.law_all.tw10247251320241082336 : True := trivial
theorem Mine.law_all.tw17970757394946253910 : True := trivial
theorem Mine.law_all.tw17811419955406721850 : True := trivial
theorem Mine.law_all.tw6131706969986857872 : True := trivial
theorem Mine.law_all.tw3261250254779219729 : True := trivial
theorem Mine.law_all.tw15161120417280960535 : True := trivial
theorem Mine.law_all.tw1216541509919387563 : True := trivial
theorem Mine.law_all.tw2525653633432605389 : True := trivial
theorem Mine.law_all.tw17994726235332625280 : True := trivial
theorem Mine.law_all.tw4640835974096237147 : True := trivial
theorem Mine.law_all.tw5415215016402467412 : True := trivial
theorem Mine.law_all.tw11572952145666636933 : True := trivial
theorem Mine.law_all.tw15421611283047414692 : True := trivial
theorem Mine.law_all.tw7982698399765186325 : True := trivial
theorem Mine.law_all.tw5007728179111998763 : True := trivial
theorem Mine.law_all.tw743412211500013303 : True := trivial
theorem Mine.law_all.tw17138794587834298416 : True := trivial
theorem Mine.law_all.tw5113565536986230370 : True := trivial
theorem Mine.law_all.tw16611412123790042429 : True := trivial
theorem Mine.law_all.tw14375837930296264146 : True := trivial
theorem Mine.law_all.tw9339400996390342628 : True := trivial
theorem Mine.law_all.tw6250623550151289363 : True := trivial
theorem Mine.law_all.tw7979492120457570264 : True := trivial
theorem Mine.law_all.tw14448975606232184337 : True := trivial
theorem Mine.law_all.tw14038700456328504219 : True := trivial
theorem Mine.law_all.tw8998419837362456327 : True := trivial
theorem Mine.law_all.tw1469086916834449242 : True := trivial
theorem Mine.law_all.tw2394756045033803996 : True := trivial
theorem Mine.law_all.tw7292434958787203408 : True := trivial
theorem Mine.law_all.tw17870765948467921550 : True := trivial
theorem Mine.law_all.tw4971525033006987312 : True := trivial
theorem Mine.law_all.tw17413550076941298003 : True := trivial
theorem Mine.law_all.tw11316630271383740818 : True := trivial
theorem Mine.law_all.tw7470513268851451213 : True := trivial
theorem Mine.law_all.tw8636992181308737738 : True := trivial
theorem Mine.law_all.tw9285932881680792518 : True := trivial
theorem Mine.law_all.tw12485393647227945402 : True := trivial
theorem Mine.law_all.tw3694351898582876921 : True := trivial
theorem Mine.law_all.tw3053660256275331401 : True := trivial
theorem Mine.law_all.tw12426150187355495272 : True := trivial
theorem Mine.law_all.tw34981568851968291 : True := trivial
theorem Mine.law_all.tw1485154726033263068 : True := trivial
theorem Mine.law_all.tw3907663706730131783 : True := trivial
theorem Mine.law_all.tw4676387156939204929 : True := trivial
theorem Mine.law_all.tw1770321641891747666 : True := trivial
theorem Mine.law_all.tw8144562630861866219 : True := trivial
theorem Mine.law_all.tw1941046448484579991 : True := trivial
theorem Mine.law_all.tw498969334165971575 : True := trivial
theorem Mine.law_all.tw16802804513485658213 : True := trivial
theorem Mine.law_all.tw7244142420057014546 : True := trivial
theorem Mine.law_all.tw5331902312086228352 : True := trivial
theorem Mine.law_all.tw1809502294756820286 : True := trivial
theorem Mine.law_all.tw1678774688637317811 : True := trivial
theorem Mine.law_all.tw9881681013793774600 : True := trivial
theorem Mine.law_all.tw2154737406897626791 : True := trivial
theorem Mine.law_all.tw15845778499796225489 : True := trivial
theorem Mine.law_all.tw11836482064631991793 : True := trivial
theorem Mine.law_all.tw18041836178462933985 : True := trivial
theorem Mine.law_all.tw17585104241551753366 : True := trivial
theorem Mine.law_all.tw17491269327052831879 : True := trivial
theorem Mine.law_all.tw6567813324483764927 : True := trivial
theorem Mine.law_all.tw7658680413803366864 : True := trivial
theorem Mine.law_all.tw5046676412343541489 : True := trivial
theorem Mine.law_all.tw17293483708993535449 : True := trivial
theorem Mine.law_all.tw15627020587669677704 : True := trivial
theorem Mine.law_all.tw17610193108198147946 : True := trivial
theorem Mine.law_all.tw16610364562264112213 : True := trivial
theorem Mine.law_all.tw1155645803786910667 : True := trivial
theorem Mine.law_all.tw17238692654854937651 : True := trivial
theorem Mine.law_all.tw17213418721671049187 : True := trivial
theorem Mine.law_all.tw18424452837839797475 : True := trivial
theorem Mine.law_all.tw8810683771702325575 : True := trivial
theorem Mine.law_all.tw14978941665995686438 : True := trivial
theorem Mine.law_all.tw12074057436302401830 : True := trivial
theorem Mine.law_all.tw6495852183210934563 : True := trivial
theorem Mine.law_all.tw17633126580248655646 : True := trivial
theorem Mine.law_all.tw18024192373445878068 : True := trivial
theorem Mine.law_all.tw4179209112946984403 : True := trivial
theorem Mine.law_all.tw14832577517017574144 : True := trivial
theorem Mine.law_all.tw18057137985718396609 : True := trivial
theorem Mine.law_all.tw11404586228399824523 : True := trivial
theorem Mine.law_all.tw5964670041877113058 : True := trivial
theorem Mine.law_all.tw11688695010476522603 : True := trivial
theorem Mine.law_all.tw5970844899898935343 : True := trivial
theorem Mine.law_all.tw17009404168889603793 : True := trivial
theorem Mine.law_all.tw12857768353395258856 : True := trivial
theorem Mine.law_all.tw1462358456018306731 : True := trivial
theorem Mine.law_all.tw5591302951066050737 : True := trivial
theorem Mine.law_all.tw3206805621277776192 : True := trivial
theorem Mine.law_all.tw3678862231927643409 : True := trivial
theorem Mine.law_all.tw5176073063277498486 : True := trivial
theorem Mine.law_all.tw4527195061187594670 : True := trivial
set_option Elab.async true in
theorem Mine.law_all : PySem.Challenge.rw_kq0019_03.Holds := by
  w_on
  o_law
  o_head (kHook Mine.hd.heap_1 [2, 3, 33, 35, 36, 38, 39, 40, 42, 43, 45, 46, 47, 49, 50, 52, 53, 54, 61, 62, 63, 64, 74, 76, 77, 79, 80, 81, 82, 83, 84, 85, 86, 89, 96, 97, 98, 101, 108, 109, 110, 113, 120, 121, 123, 124, 126, 127, 128, 130, 131, 133, 134, 135, 137, 138, 140, 141, 142, 144, 145, 147, 148, 149, 150, 152, 153, 155, 156, 157, 159, 160, 162, 163, 164, 166, 167, 169, 170, 171, 173, 174, 176, 177, 178, 180, 181, 183, 184, 185, 187, 188, 190, 191, 192, 194, 195, 197, 198, 199, 201, 202, 204, 205, 206, 208, 209, 211, 212, 213, 215, 216, 218, 219, 220, 222, 223, 225, 226, 227, 229, 230, 232, 233, 234, 236, 237, 239, 240, 241, 242, 244, 245, 247, 248, 249, 250, 252, 253, 255, 256, 257, 258, 260, 261, 263, 264, 265, 266, 268, 269, 271, 272, 273, 275, 276, 278, 279, 280, 282, 283, 285, 286, 287, 288, 290, 291, 293, 294, 295, 296, 298, 299, 301, 302, 303, 305, 306, 308, 309, 310, 312, 313, 315, 316, 317, 319, 320, 322, 323, 324, 326, 327, 329, 330, 331, 333, 334, 336, 337, 338, 339, 340, 343, 350, 351, 353, 354, 356, 357, 358, 360, 361, 363, 364, 365, 367, 368, 370, 371, 372, 374, 375, 377, 378, 379, 381, 382, 384, 385, 386, 388, 389, 391, 392, 393, 394, 396, 397, 399, 400, 401, 402, 404, 405, 407, 408, 409, 410, 412, 413, 415, 416, 417, 418, 420, 421, 423, 424, 425, 426, 428, 429, 431, 432, 433, 435, 436, 438, 439, 440, 442, 443, 445, 446, 447, 449, 450, 452, 453, 454, 456, 457, 459, 460, 461, 463, 464, 466, 467, 468, 470, 471, 473, 474, 475, 477, 478, 480, 481, 482, 484, 485, 487, 488, 489, 491, 492, 494, 495, 496, 498, 499, 501, 502, 503, 505, 506, 508, 509, 510, 511, 513, 514, 516, 517, 518, 519, 521, 522, 524, 525, 526, 527, 529, 530, 532, 533, 534, 535, 537, 538, 540, 541, 542, 543, 545, 546, 548, 549, 550, 552, 553, 555, 556, 557, 559, 560, 562, 563, 564, 566, 567, 569, 570, 571, 573, 574, 576, 577, 578, 580, 581, 583, 584, 585, 586, 587, 590, 592, 593, 595, 596, 597, 599, 600, 602, 603, 604, 606, 607, 609, 610, 611, 613, 614, 616, 617, 618, 620, 621, 623, 624, 625, 627, 628, 630, 631, 639, 640, 642, 643, 645, 646, 647, 649, 650, 652, 653, 654, 655, 657, 658, 660, 661, 662, 663, 665, 666, 668, 669, 670, 672, 673, 675, 676, 677, 679, 680, 682, 683, 684, 686, 687, 689, 690, 691, 693, 694, 696, 697, 698, 699, 701, 702, 704, 705, 706, 708, 709, 711, 712, 713, 715, 716, 718, 719, 720, 721, 722, 723, 724, 727, 729, 730, 732, 733, 734, 736, 737, 739, 740, 741, 744, 745] (fun _ => by kernel_rfl))
  (case hw => w_witness2)
  (apply Mine.free; (case a => exact trivial); (case b => exact trivial); (case c => exact trivial); (case d => exact trivial); (case e => exact trivial); (case f => exact trivial); (case g => exact trivial); (case h => exact trivial); (case i => exact trivial); (case j => exact trivial); (case k => exact trivial); (case l => exact trivial); (case m => exact trivial); (case n => exact trivial); (case o => exact trivial); (case q => exact trivial); (case r => exact trivial); (case s => exact trivial); (case t => exact trivial); (case u => exact trivial); (case v => exact trivial); (case w => exact trivial); (case x => exact trivial); (case y => exact trivial); (case z => exact trivial); (case A => exact trivial); (case B => exact trivial); (case C => exact trivial); (case D => exact trivial); (case E => exact trivial); (case F => exact trivial); (case G => exact trivial); (case H => exact trivial); (case I => exact trivial); (case J => exact trivial); (case K => exact trivial); (case L => exact trivial); (case M => exact trivial); (case N => exact trivial); (case O => exact trivial); (case P => exact trivial); (case Q => exact trivial); (case R => exact trivial); (case S => exact trivial); (case T => exact trivial); (case U => exact trivial); (case V => exact trivial); (case W => exact trivial); (case X => exact trivial); (case Y => exact trivial); (case Z => exact trivial); (case e1 => exact trivial); (case e2 => exact trivial); (case e3 => exact trivial); (case e4 => exact trivial); (case e5 => exact trivial); (case e6 => exact trivial); (case e7 => exact trivial); (case e8 => exact trivial); (case e9 => exact trivial); (case e10 => exact trivial); (case k1 => exact trivial); (case k2 => exact trivial); (case k3 => exact trivial); (case k4 => exact trivial); (case k5 => exact trivial); (case k6 => exact trivial); (case k7 => exact trivial); (case k8 => exact trivial); (case k9 => exact trivial); (case k10 => exact trivial); (case k11 => exact trivial); (case k12 => exact trivial); (case k13 => exact trivial); (case k14 => exact trivial); (case k15 => exact trivial); (case h1 => exact trivial); (case h2 => exact trivial); (case h3 => exact trivial); (case h4 => exact trivial); (case h5 => exact trivial); (case h6 => exact trivial); (case hr => exact trivial); (case hp => exact trivial); (case hi => exact trivial); (case hv => exact trivial); (case hz => exact trivial); (case sz => exact trivial); (case sub => exact trivial); (case hQ => exact trivial); (case hE => exact trivial); (case hP => exact trivial); (case hC => exact trivial); (case hx => exact trivial); (case ka => exact trivial); (case kb => exact trivial))
  k_go0
  all_goals try k_fold
  (repeat' (first | (k_unfold; (try dsimp only)) | ((fail_if_success (with_reducible show wpAny _ _ (execs (Stmt.If _ _ _ _ :: _) _) _ _ _)); walk1)))
  rename World => w
  rename Fr _ _ _ _ => F1
  rename News _ _ _ _ => N1
  rename IntsAre _ _ => hi1
  rename @Ne Nat _ _ ∧ @Ne Nat _ _ => hne1
  refine Mine.lw_if F1 N1 ?h1 ?h2
  case h1 =>
    k_steps
    · refine' Mine.lw_mid ?F ?N ?i ?e1 ?e2 ?e3 ?e4 ?sub
      case F => assumption
      case N => assumption
      case e3 => exact if_pos rfl
      case sub => exact List.forall_mem_cons.mpr ⟨List.Mem.head _, List.forall_mem_cons.mpr ⟨by k_mem, List.forall_mem_nil _⟩⟩
      case i => exact .cons 0 _ .nil
      case e1 => simp
      case e2 => simp
      case e4 =>
        rename _ ∧ _ ∧ _ ∧ _ => hl
        exact Nat.ne_of_lt hl.2.2.2
    · refine' Mine.lw_mid ?F ?N ?i ?e1 ?e2 ?e3 ?e4 ?sub
      case F => assumption
      case N => assumption
      case e3 => exact if_pos rfl
      case sub => exact List.forall_mem_cons.mpr ⟨List.Mem.tail _ (List.Mem.head _), List.forall_mem_cons.mpr ⟨by k_mem, List.forall_mem_nil _⟩⟩
      case i => exact hi1
      case e1 => exact of_decide_eq_false (by assumption)
      case e2 => simp only [List.length_map]; omega
      case e4 => exact hne1.2
  case h2 =>
    clear F1 N1 hi1 hne1
    intro h2 tk2 D vs nums nn m2 F2 N2 hi2 hne2 hlen2 hcD
    cases hi2 with
    | nil => exact absurd rfl hne2
    | cons n0 t0 hi2 =>
    (apply Mine.free; (case a => exact trivial); (case b => exact trivial); (case c => exact trivial); (case d => exact trivial); (case e => exact trivial); (case f => exact trivial); (case g => exact trivial); (case h => exact trivial); (case i => exact trivial); (case j => exact trivial); (case k => exact trivial); (case l => exact trivial); (case m => exact trivial); (case n => exact trivial); (case o => exact trivial); (case q => exact trivial); (case r => exact trivial); (case s => exact trivial); (case t => exact trivial); (case u => exact trivial); (case v => exact trivial); (case w => exact trivial); (case x => exact trivial); (case y => exact trivial); (case z => exact trivial); (case A => exact trivial); (case B => exact trivial); (case C => exact trivial); (case D => exact trivial); (case E => exact trivial); (case F => exact trivial); (case G => exact trivial); (case H => exact trivial); (case I => exact trivial); (case J => exact trivial); (case K => exact trivial); (case L => exact trivial); (case M => exact trivial); (case N => exact trivial); (case O => exact trivial); (case P => exact trivial); (case Q => exact trivial); (case R => exact trivial); (case S => exact trivial); (case T => exact trivial); (case U => exact trivial); (case V => exact trivial); (case W => exact trivial); (case X => exact trivial); (case Y => exact trivial); (case Z => exact trivial); (case e1 => exact trivial); (case e2 => exact trivial); (case e3 => exact trivial); (case e4 => exact trivial); (case e5 => exact trivial); (case e6 => exact trivial); (case e7 => exact trivial); (case e8 => exact trivial); (case e9 => exact trivial); (case e10 => exact trivial); (case k1 => exact trivial); (case k2 => exact trivial); (case k3 => exact trivial); (case k4 => exact trivial); (case k5 => exact trivial); (case k6 => exact trivial); (case k7 => exact trivial); (case k8 => exact trivial); (case k9 => exact trivial); (case k10 => exact trivial); (case k11 => exact trivial); (case k12 => exact trivial); (case k13 => exact trivial); (case k14 => exact trivial); (case k15 => exact trivial); (case h1 => exact trivial); (case h2 => exact trivial); (case h3 => exact trivial); (case h4 => exact trivial); (case h5 => exact trivial); (case h6 => exact trivial); (case hr => exact trivial); (case hp => exact trivial); (case hi => exact trivial); (case hv => exact trivial); (case hz => exact trivial); (case sz => exact trivial); (case sub => exact trivial); (case hQ => exact trivial); (case hE => exact trivial); (case hP => exact trivial); (case hC => exact trivial); (case hx => exact trivial); (case ka => exact trivial); (case kb => exact trivial))
    (repeat' (first | (k_unfold; (try dsimp only)) | ((fail_if_success (with_reducible show wpAny _ _ (eval (Expr.IfExp _ _ _ _) _) _ _ _)); walk1)))
    rename List Int => ns0
    refine Mine.end_val (b := (((n0 :: ns0).getD (Int.toNat 0) 0).fmod 2 == 1)) ?_ ?_
    · k_steps
      · rename Int.fmod _ 2 = 1 => h7
        rw [h7]; rfl
      · rename Int.fmod _ 2 ≠ 1 => h7
        rw [beq_eq_false_iff_ne.mpr h7]; exact ⟨_, rfl⟩
    intro endv k5 hend
    generalize (((n0 :: ns0).getD (Int.toNat 0) 0).fmod 2 == 1) = b at hend
    (repeat' (first | (k_unfold; (try dsimp only)) | ((fail_if_success (with_reducible show wpAny _ _ (call (Value.ref 733) _) _ _ _)); walk1)))
    refine' Mine.draw3 ?k1 ?k2 ?k3 ?k4 ?k5 ?k6 (.cons _ _ hi2) ?k7 ?k8 ?_
    case k8 => k_asm
    case k1 => k_asm
    case k2 => k_asm
    case k3 => k_asm
    case k4 => k_asm
    case k5 => k_room
    case k6 => k_units
    case k7 => simpa using hlen2
    intro h6 x tx k6 q dl dv dn ks F6 N6 hdq hdl hA hks hk7 hlx
    have hx2 : x.length + ks.length ≤ 360 := by simp only [List.length_cons] at *; omega
    (repeat' (first | (k_unfold; (try dsimp only)) | ((fail_if_success (with_reducible show wpAny _ _ (call (Value.ref 740) _) _ _ _)); walk1)))
    refine' Mine.tok3 (b := b) ?k1 ?k2 ?k3 ?k4 ?k5 ?k6 (by omega) hA ?k8 ?_
    case k8 => k_asm
    case k1 => k_asm
    case k2 => k_asm
    case k3 => k_asm
    case k4 => k_asm
    case k5 => k_room
    case k6 => k_units
    intro h8 rl rv rn k8 F8 N8 o8 hrv
    (repeat' (first | (k_unfold; (try dsimp only)) | ((fail_if_success (with_reducible show wpAny _ _ (compareOp CmpOp.Is _ _) _ _ _)); walk1)))
    refine Mine.is_none hend ?_
    (repeat' (first | (k_unfold; (try dsimp only)) | ((fail_if_success (with_reducible show wpAny _ _ (call (Value.ref 722) _ _) _ _ _)); walk1)))
    refine' Mine.ctor ?k1 ?k2 ?k3 ?k4 ?k5 ?k6 (by rw [Mine.S_length']; omega) ?k8 ?_
    case k8 => k_asm
    case k1 => k_asm
    case k2 => k_asm
    case k3 => k_asm
    case k4 => k_asm
    case k5 => k_room
    case k6 => k_units
    intro lx dx io iod pb fs h9 kt LT1 ev2 t1 ts tl tt k9 F9 hev2 o1 o2 o3 o4 o5 a1 a2 a3 a4 N9
    revert F9 N9
    (repeat (rename Fr _ _ _ _ => Fz; clear Fz))
    (repeat (rename News _ _ _ _ => Nz; clear Nz))
    intro F9 N9
    simp only [AllLt, and_true] at a1 a2 a3 a4 hdq hdl
    have o8' : @LT.lt Nat _ q rl ∧ @LT.lt Nat _ dl rl ∧ @LT.lt Nat _ D rl := ⟨o8 _ (.head _), o8 _ (.tail _ (.head _)), o8 _ (.tail _ (.tail _ (.head _)))⟩
    have o8c := o8 _ (.tail _ (.tail _ (.tail _ (.head _))))
    dsimp only at o8c
    clear o8
    (repeat' (first | (k_unfold; (try dsimp only)) | ((fail_if_success (with_reducible show wpAny _ _ (binaryOp Operator.Add _ _) _ _ _)); walk1)))
    (repeat' (first | (k_unfold; (try dsimp only)) | ((fail_if_success (with_reducible show wpAny _ _ (binaryOp Operator.Add _ _) _ _ _)); walk1)))
    rename Fr _ _ _ _ => FA
    rename News _ _ _ _ => NA
    refine Mine.cat_two (ws := [_, _, _]) FA NA (by k_mem) (.head _) (by rw [hks.length]; simp only [List.length_cons, List.length_nil]; omega) ?_
    intro l3 hA3 FB NB loB
    clear FA NA
    (repeat' (first | (k_unfold; (try dsimp only)) | ((fail_if_success (with_reducible show wpAny _ _ (pyIter _) _ _ _)); walk1)))
    rename Fr _ _ _ _ => FP
    rename News _ _ _ _ => NP
    have hrd : DatAll [] rv ((Mine.toksOf (fun c => (Mine.WC b).cps.toList.contains c) x).map fun t => Dat.str (Mine.S t)) := by
      have := Mine.strs_dat (l := []) hrv
      rw [List.map_map] at this
      exact this
    rename Obj => oc2
    rename Shared => s1
    rename _ = Data.cell _ => hcell
    have hN0 := Mine.lo_start NP loB
    have hdk := Mine.toks_dok (W := fun c => (Mine.WC b).cps.toList.contains c) hA
    refine Mine.ints_free (ns := ks ++ [11, 11, 7]) (Mine.LoJ w.params kt LT1 x b ev2 endv io iod pb lx dx fs (s1.heap.objs.size + 1) oc2) rfl (hks.append (.cons _ _ (.cons _ _ (.cons _ _ .nil)))) FP hN0.1 hN0.2 ?gJ ?gT ?gD
    case gJ =>
      refine Mine.lo_j (c := ⟨.str (Str.ofString " ") ts, 1, tl, Str.ofString "", tt, 0, t1, [], 0⟩) FP (by simp only [Mine.lne, if_true, if_false]) (by simp only [Mine.lne, if_true, if_false]) (if_pos rfl) Mine.lxr0 hrd hdk.1 (.str (Str.ofString "b a") _) ⟨.inr ⟨_, rfl⟩, by decide +kernel⟩ (by omega) ⟨?_, ?_, ?_, ?_, ?_, ?_, ?_⟩
      · exact Nat.ne_of_lt (Nat.lt_trans a2.1 o3)
      · exact Nat.ne_of_lt a2.1
      · exact Nat.ne_of_lt a3.1
      · exact Nat.ne_of_lt (Nat.lt_trans a1.1 o1)
      · exact Nat.ne_of_lt a1.1
      · exact Nat.ne_of_lt a4.1
      · exact Nat.ne_of_gt o8c
    case gT =>
      clear FP NP hN0 loB
      rintro i n t m₁ nx h tk I oI ol hn ⟨c, R, vs, rk, row, m', lv, ld, rfl, rfl, p1, p2, p3, p4, p5, p6, p7⟩ hadr F N
      obtain ⟨hn2, hi2⟩ := Mine.lo_deed hk7 hn
      have hpb := Mine.lxr_pbs p1
      have hRI := hadr _ (List.mem_append_right _ (.head _))
      have hiod := hadr _ (List.mem_append_left _ (.tail _ (.head _)))
      have hdx := hadr _ (List.mem_append_left _ (.tail _ (.tail _ (.tail _ (.tail _ (.head _))))))
      have hpbI := hadr _ (List.mem_append_left _ (.tail _ (.tail _ (.head _))))
      dsimp only at hRI hiod hdx hpbI
      have q1 : ∀ vs' rk', ∀ p ∈ [(R, W.listOf (vs' : List Value).toArray rk'), (s1.heap.objs.size + 1, oc2), (I, oI), (l3, ol)], p.1 ≠ iod := fun _ _ => Mine.lo_off p7.2.1 (Nat.ne_of_lt a2.2.2.2.2) hiod
      have q2 : ∀ vs' rk', ∀ p ∈ [(R, W.listOf (vs' : List Value).toArray rk'), (s1.heap.objs.size + 1, oc2), (I, oI), (l3, ol)], p.1 ≠ dx := fun _ _ => Mine.lo_off p7.2.2.2.2.1 (Nat.ne_of_lt a1.2.2.2.2) hdx
      have q3 : ∀ vs' rk', ∀ p ∈ [(R, W.listOf (vs' : List Value).toArray rk'), (s1.heap.objs.size + 1, oc2), (I, oI), (l3, ol)], p.1 ≠ pb := fun _ _ => Mine.lo_off p7.2.2.1 (Nat.ne_of_lt a3.2.2.2.2) hpbI
      rw [List.append_assoc] at N
      change Fr s1.heap s1.heap.objs.size _ _ at F
      change News s1.heap s1.heap.objs.size _ _ at N
      dsimp only [Mine.lxLed, List.cons_append, List.nil_append] at N
      by_cases h10 : n < 10
      · (repeat' (first | (k_unfold; (try dsimp only)) | ((fail_if_success (with_reducible show wpAny _ _ (compareOp CmpOp.NotEq _ _) _ _ _)); walk1)))
        rename News _ _ _ _ => N2
        rename Addr => le
        rename io < le ∧ _ => hle
        refine Mine.ne_nil N2 (.tail _ (.tail _ (.tail _ (.tail _ (.tail _ (.tail _ (.tail _ (.head _)))))))) p2 (.head _) p3 (Nat.le_of_ble_eq_true rfl) ?_
        cases row with
        | nil =>
          cases p2
          (repeat' (first | (k_unfold; (try dsimp only)) | ((fail_if_success (with_reducible show wpAny _ _ (call (Value.ref 683) _) _ _ _)); walk1)))
          rename Fr _ _ _ _ => F3
          rename News _ _ _ _ => N3
          refine' Mine.lx3_get (c := c) (rest := [(R, _), (_, oc2), (I, oI), (l3, ol)]) ?k1 F3 ?k3 ?k4 ?k5 ?k6 (by omega) hA o1 o2 o3 o4 o5 (q1 _ _) (q2 _ _) (q3 _ _) p1 (by omega) hev2 (fun p hp => N3 p (.tail _ hp)) ?_
          case k1 => k_asm
          case k3 => k_asm
          case k4 => k_asm
          case k5 => k_room
          case k6 => k_units
          intro h4 v4 c4 row4 k4 F4 N4 hP4 hG4 hl4
          obtain ⟨e4, rfl⟩ := hG4
          clear N3 F3
          (repeat' (first | (k_unfold; (try dsimp only)) | ((fail_if_success (with_reducible show wpAny _ _ (compareOp CmpOp.NotEq _ _) _ _ _)); walk1)))
          refine Mine.ne_evs (by rw [e4]; exact hev2) hend ?_
          k_steps
          refine' Mine.lo_end (c := c) (c' := c4) (R := R) (R' := R) (vs' := []) (rk' := rk) (row' := []) (ld := Mine.datOf b []) (lv := endv) F4 N4 ?e1 ?e2 ?e3 ?e4 ?e5 hRI hP4 .nil ?e6 ?e7 Mine.end_dat ?e8 p7
          case e1 => simp only [kstB, Mine.lne, if_true, if_false]
          case e2 => simp only [kstB, Mine.lne, if_true, if_false]
          case e3 => exact if_pos rfl
          case e6 => exact p3
          case e7 => exact Mine.ev_dat hend
          case e8 => exact Nat.zero_le _
          case e4 => exact fun p hp => hp
          case e5 => exact hadr
        | cons d0 r0 =>
          cases p2 with
          | @cons v0 vs0 d0 r0 pv pr =>
          rw [List.isEmpty_cons, Bool.not_false]
          (repeat' (first | (k_unfold; (try dsimp only)) | ((fail_if_success (with_reducible show wpAny _ _ (call (Value.builtin "list.pop") _) _ _ _)); walk1)))
          rename Fr _ _ _ _ => F3
          rename News _ _ _ _ => N3
          refine Mine.lo_pop (vs0 := vs0) (v0 := v0) F3 N3 (.tail (Nat.ne_of_gt hle.2.2.2.2.2.2.1) (Mine.lo_upd (c := c) (o := W.listOf (v0 :: vs0).toArray rk) (o' := W.listOf vs0.toArray (rk + 1)) p7 hRI)) ?p2 ?_
          case p2 => (have := pr.length; simp only [List.length_cons] at p6; omega)
          intro h3 F3' N3'
          clear F3 N3
          (repeat' (first | (k_unfold; (try dsimp only)) | ((fail_if_success (with_reducible show wpAny _ _ (call (Value.ref 683) _) _ _ _)); walk1)))
          rename Fr _ _ _ _ => F3
          rename News _ _ _ _ => N3
          refine' Mine.lx3_get (c := c) (rest := [(R, _), (_, oc2), (I, oI), (l3, ol)]) ?k1 F3 ?k3 ?k4 ?k5 ?k6 (by omega) hA o1 o2 o3 o4 o5 (q1 _ _) (q2 _ _) (q3 _ _) p1 (by omega) hev2 (fun p hp => N3 p (.tail _ hp)) ?_
          case k1 => k_asm
          case k3 => k_asm
          case k4 => k_asm
          case k5 => k_room
          case k6 => k_units
          intro h4 v4 c4 row4 k4 F4 N4 hP4 hG4 hl4
          obtain ⟨e4, rfl⟩ := hG4
          clear N3 F3
          (repeat' (first | (k_unfold; (try dsimp only)) | ((fail_if_success (with_reducible show wpAny _ _ (compareOp CmpOp.NotEq _ _) _ _ _)); walk1)))
          refine Mine.ne_dat e4 pv (p3 _ (.head _)).1 ?_
          k_steps
          refine' Mine.lo_end (c := c) (c' := c4) (R := R) (R' := R) (vs' := vs0) (rk' := rk + 1) (row' := row4) (ld := d0) (lv := v0) F4 N4 ?e1 ?e2 ?e3 ?e4 ?e5 hRI hP4 pr ?e6 pv ?e7 ?e8 p7
          case e1 => simp only [kstB, Mine.lne, if_true, if_false]
          case e2 => simp only [kstB, Mine.lne, if_true, if_false]
          case e3 => exact if_pos rfl
          case e6 => exact fun d hd => p3 d (.tail _ hd)
          case e7 => exact p3 _ (.head _)
          case e8 => (simp only [List.length_cons] at p6; omega)
          case e4 => exact fun p hp => hp
          case e5 => exact hadr
      · by_cases h12 : n < 12
        · (repeat' (first | (k_unfold; (try dsimp only)) | ((fail_if_success (with_reducible show wpAny _ _ (exec (Stmt.While _ _ _ _) _) _ _ _)); walk1)))
          rename Fr _ _ _ _ => F3
          rename News _ _ _ _ => N3
          have hvl := p2.length
          refine' Mine.wx_while (σ := Mine.WS) (fun _ => _) (fun c => [(Str.ofString "size", .int c.n c.t)]) [] (fun c => Mine.LoS b row c.n) (fun c => Mine.LoX b row c.n) (fun c => row.length - c.n) ⟨0, ?tz⟩ F3 N3 ?w1 Mine.los0 ?w2 ?w3
          case w1 => (intro p hp; rw [List.mem_singleton.mp hp]; exact if_pos rfl)
          case w2 =>
            rintro ⟨sn, st⟩ u h4 tk4 hS F4 N4
            dsimp only at hS F4 N4
            clear F3 N3
            (repeat' (first | (k_unfold; (try dsimp only)) | ((fail_if_success (with_reducible show wpAny _ _ (call (Value.builtin "len") _) _ _ _)); walk1)))
            refine Mine.len_few N4 (by k_mem) (by omega) ?_
            by_cases hlt : sn < row.length
            · (repeat' (first | (k_unfold; (try dsimp only)) | ((fail_if_success (with_reducible show wpAny _ _ (subscriptTail _ _ _ _) _ _ _)); walk1)))
              refine Mine.lo_item N4 (by k_mem) p2 hlt (by omega) ?_ (by with_unfolding_all rfl)
              intro v5 d5 h5 m5 i5
              (repeat' (first | (k_unfold; (try dsimp only)) | ((fail_if_success (with_reducible show wpAny _ _ (compareOp CmpOp.NotEq _ _) _ _ _)); walk1)))
              refine Mine.ne_isE i5 (p3 _ m5).1 hend ?_
              cases hE5 : Mine.isE b d5 with
              | true =>
                rw [Bool.not_true]
                k_steps
                exact Mine.wl_at (σ := Mine.WS) ⟨sn, st⟩ F4 N4 (fun p hp => hp) Mine.wx_k (fun z z1 z2 => Mine.wx_n (z1 _ (.head _))) ⟨hS, .inr ⟨d5, h5, hE5⟩⟩
              | false =>
                rw [Bool.not_false]
                k_steps
                rename Fr _ _ _ _ => F5
                rename News _ _ _ _ => N5
                refine Mine.wl_at (σ := Mine.WS) ⟨sn + 1, _⟩ F5 N5 (fun p hp => hp) (fun p hp => by rw [List.mem_singleton.mp hp]; exact if_pos rfl) (fun z z1 z2 => (if_neg (z1 _ (.head _))).trans (Mine.wx_n (z1 _ (.head _)))) ⟨Mine.los_step hS h5 hE5, ?_⟩
                show row.length - (sn + 1) < row.length - sn
                omega
            · k_steps
              exact Mine.wl_at (σ := Mine.WS) ⟨sn, st⟩ F4 N4 (fun p hp => hp) Mine.wx_k (fun z z1 z2 => Mine.wx_n (z1 _ (.head _))) ⟨hS, .inl (by have := hS.1; dsimp only at *; omega)⟩
          case w3 =>
            rintro ⟨sn, st⟩ u h4 tk4 hS F4 N4
            dsimp only at hS F4 N4
            clear F3 N3
            (repeat' (first | (k_unfold; (try dsimp only)) | ((fail_if_success (with_reducible show wpAny _ _ (call (Value.type "list") _) _ _ _)); walk1)))
            rename Fr _ _ _ _ => F5
            rename News _ _ _ _ => N5
            refine' Mine.list_lex (c := c) (row := row) (rest := [(R, W.listOf vs.toArray rk), (_, oc2), (I, oI), (l3, ol)]) ?k1 F5 ?k3 ?k4 ?k5 ?k6 (by omega) hA o1 o2 o3 o4 o5 (q1 _ _) (q2 _ _) (q3 _ _) p1 (by omega) hev2 (fun d hd => (p3 d hd).1) N5 ?_
            case k1 => k_asm
            case k3 => k_asm
            case k4 => k_asm
            case k5 => k_room
            case k6 => k_units
            intro h6 SA ys ky c6 row6 done k6 F6 N6 lo6 hys hdone hP6 hr6
            obtain ⟨e1, e2⟩ := Mine.los_end hS.1 hS.2 hdone hr6
            clear F5 N5
            (repeat' (first | (k_unfold; (try dsimp only)) | ((fail_if_success (with_reducible show wpAny _ _ (subscriptTail _ _ _ _) _ _ _)); walk1)))
            refine' kms_slice_lit (l := R) (its := vs.toArray) (zs := vs.take sn) ?F ?N ?l .none (IsPart.int _ _) ?e ?_ ?hs ?ht ?hz
            case F => exact F6
            case N => exact N6
            case l => exact ⟨_, News.get N6 (.tail _ (List.mem_append_right _ (.head _))), rfl, rk, rfl⟩
            case e => exact Mine.pick_take (by have := hS.1.1; dsimp only at *; omega)
            case hs => with_unfolding_all rfl
            case ht => kmk_pure
            case hz => (rw [PySem.sizeLine_eq, List.size_toArray]; omega)
            intro l7 h7 F7 N7 lo7
            clear F6 N6
            (repeat' (first | (k_unfold; (try dsimp only)) | ((fail_if_success (with_reducible show wpAny _ _ (compareOp _ _ _) _ _ _)); walk1)))
            refine Mine.lo_same N7 (.tail _ (.head _)) hys (.head _) (Mine.dall_take p2) (fun d hd => p3 d (List.mem_of_mem_take (e1 ▸ hd))) (Nat.le_of_ble_eq_true rfl) e1 ?_
            (repeat' (first | (k_unfold; (try dsimp only)) | ((fail_if_success (with_reducible show wpAny _ _ (subscriptTail _ _ _ _) _ _ _)); walk1)))
            refine' kms_slice_lit (l := R) (its := vs.toArray) (zs := vs.drop (sn + 1)) ?F ?N ?l (IsPart.int _ _) .none ?e ?_ ?hs ?ht ?hz
            case F => exact F7
            case N => exact N7
            case l => exact ⟨_, News.get N7 (.tail _ (.tail _ (List.mem_append_right _ (.head _)))), rfl, rk, rfl⟩
            case e => exact Mine.pick_drop
            case hs => with_unfolding_all rfl
            case ht => kmk_pure
            case hz => (rw [PySem.sizeLine_eq, List.size_toArray]; omega)
            intro l8 h8 F8 N8 lo8
            clear F7 N7
            k_steps
            rename Fr _ _ _ _ => F9
            rename News _ _ _ _ => N9
            refine' Mine.lo_end (c := c) (c' := c6) (R := R) (R' := l8) (vs' := vs.drop (sn + 1)) (rk' := 0) (row' := row6) (ld := ld) (lv := lv) F9 N9 ?e1 ?e2 ?e3 ?e4 ?e5 ?e9 hP6 (e2 ▸ Mine.dall_drop p2) ?e6 p4 p5 ?e8 ?e10
            case e1 => (simp only [kstB, Mine.lne, if_true, if_false]; rfl)
            case e2 => exact if_pos rfl
            case e3 => (simp only [kstB, Mine.lne, if_true, if_false]; rfl)
            case e6 => exact fun d hd => p3 d (List.mem_of_mem_drop (e2 ▸ hd))
            case e8 => (rw [← e2, List.length_drop]; omega)
            case e4 => exact Mine.lo_sub
            case e5 => exact hadr
            case e9 => exact ⟨Nat.ne_of_gt (lo8 _ (.tail _ (.tail _ (List.mem_append_right _ (.tail _ (.tail _ (.head _))))))), Nat.ne_of_gt (lo8 _ (.tail _ (.tail _ (List.mem_append_right _ (.tail _ (.tail _ (.tail _ (.head _))))))))⟩
            case e10 => exact Mine.ne6_gt (c := c6) fun p hp => lo8 p (.tail _ (.tail _ hp))
        · (repeat' (first | (k_unfold; (try dsimp only)) | ((fail_if_success (with_reducible show wpAny _ _ (subscriptTail _ _ _ _) _ _ _)); walk1)))
          rename Fr _ _ _ _ => F3
          rename News _ _ _ _ => N3
          refine Mine.lo_tok N3 (.head _) p4 p5 (by omega) (by omega) ?_ (by with_unfolding_all rfl)
          intro v5 d5 i5 ok5
          (repeat' (first | (k_unfold; (try dsimp only)) | ((fail_if_success (with_reducible show wpAny _ _ (call (Value.ref 661) _) _ _ _)); walk1)))
          try clear F3 N3
          rename Fr _ _ _ _ => F3
          rename News _ _ _ _ => N3
          refine' Mine.lx_push (c := c) (rest := [(R, W.listOf vs.toArray rk), (_, oc2), (I, oI), (l3, ol)]) ?k1 F3 ?k3 ?k4 ?k5 ?k6 o1 o2 o3 o4 o5 (q3 _ _) (by omega) (fun p hp => N3 p (.tail _ hp)) ?_
          case k1 => k_asm
          case k3 => k_asm
          case k4 => k_asm
          case k5 => k_room
          case k6 => k_units
          intro h6 k6 F6 N6
          try clear F3 N3
          (repeat' (first | (k_unfold; (try dsimp only)) | ((fail_if_success (with_reducible show wpAny _ _ (call (Value.builtin "list.insert") _) _ _ _)); walk1)))
          rename Fr _ _ _ _ => F7
          refine Mine.lo_ins (vs := vs) (rk := rk) F7 N6 (Mine.lo_upd p7 hRI) (by have := p2.length; omega) ?_
          intro h8 F8 N8
          k_steps
          refine' Mine.lo_end (c := c) (c' := ⟨c.sv, c.ln, c.tl, c.tok, c.tt, c.pos, c.tp, v5 :: c.pbs, c.pn + 1⟩) (R := R) (R' := R) (vs' := v5 :: vs) (rk' := rk + 1) (row' := d5 :: row) (ld := ld) (lv := lv) F8 N8 ?e1 ?e2 ?e3 ?e4 ?e5 hRI (Mine.lxr_push p1 i5) (.cons i5 p2) ?e6 p4 p5 ?e8 p7
          case e1 => simp only [kstB, Mine.lne, if_true, if_false]
          case e2 => simp only [kstB, Mine.lne, if_true, if_false]
          case e3 => simp only [kstB, Mine.lne, if_true, if_false]
          case e6 => exact List.forall_mem_cons.mpr ⟨ok5, p3⟩
          case e8 => (simp only [List.length_cons]; omega)
          case e4 => exact fun p hp => hp
          case e5 => exact hadr
    case gD =>
      clear FP NP hN0 loB
      rintro m₁ nx h tk ⟨c, R, vs, rk, row, m', lv, ld, rfl, rfl, p1, p2, p3, p4, p5, p6, p7⟩ F N
      change Fr s1.heap s1.heap.objs.size _ _ at F
      change News s1.heap s1.heap.objs.size _ _ at N
      have hpb := Mine.lxr_pbs p1
      have hvl := p2.length
      have hil : (ks ++ [11, 11, 7]).length = ks.length + 3 := by simp
      have N0 := N
      dsimp only [Mine.lxLed, List.cons_append, List.nil_append] at N
      (repeat' (first | (k_unfold; (try dsimp only)) | ((fail_if_success (with_reducible show wpAny _ _ (exec (Stmt.Return _ _) _) _ _ _)); walk1)))
      (repeat' (first | (k_unfold; (try dsimp only)) | ((fail_if_success (with_reducible show wpAny _ _ (eval (Expr.ListComp _ _ _ _) _) _ _ _)); walk1)))
      rename Fr _ _ _ _ => F2
      refine LCg.ListComp_U (F₀ := F2) (by with_unfolding_all rfl) (by decide) (by rfl) (by decide) (by rfl) ?_
      (repeat' (first | (k_unfold; (try dsimp only)) | ((fail_if_success (with_reducible show wpAny _ _ (call (Value.builtin "len") _) _ _ _)); walk1)))
      refine Mine.len_few N (by k_mem) (by omega) ?_
      (repeat' (first | (k_unfold; (try dsimp only)) | ((fail_if_success (with_reducible show LCg.CompSrc _ _ _ _ _ _ _ _ _ _ _ _ _ _)); walk1)))
      refine LCg.CompSrc.range (by rfl) (by k_asm) (by k_asm) (by assumption) (small_one (by omega) (by omega) (by omega) (by omega)) (rangeSize_nat _ _) (by rw [PySem.sizeLine_eq]; omega) ?_
      intro g2'
      refine Mine.comp_st (σ := Mine.LS) (fun c => Mine.lxLed w.params kt LT1 x b ev2 .none io iod pb lx dx fs 0 c ++ [(R, W.listOf vs.toArray rk), (s1.heap.objs.size + 1, oc2)]) (fun i c ys => Mine.M3I x b row i c ys) c (fun _ _ => rfl) (Mine.m30 p1) ?_ ?_
      · rintro i c ys v I oI C oC D2 m₂ h tk E' hi hP hv hC hx F8 N8 off ne
        try dsimp only at N8 off
        have N9 := Mine.news_r3 N8
        have q1 := Mine.off_t5 (o := W.listOf vs.toArray rk) (oc := oc2) (oI := oI) (oC := oC) (o2 := LCg.lst ys) p7.2.1 (Nat.ne_of_lt a2.2.2.2.2) (LCg.Off3.mem off _ (.tail _ (.head _)))
        have q2 := Mine.off_t5 (o := W.listOf vs.toArray rk) (oc := oc2) (oI := oI) (oC := oC) (o2 := LCg.lst ys) p7.2.2.2.2.1 (Nat.ne_of_lt a1.2.2.2.2) (LCg.Off3.mem off _ (.tail _ (.tail _ (.tail _ (.tail _ (.head _))))))
        have q3 := Mine.off_t5 (o := W.listOf vs.toArray rk) (oc := oc2) (oI := oI) (oC := oC) (o2 := LCg.lst ys) p7.2.2.1 (Nat.ne_of_lt a3.2.2.2.2) (LCg.Off3.mem off _ (.tail _ (.tail _ (.head _))))
        have hpl := Mine.lxr_pbs hP.1
        rw [List.length_drop] at hpl
        (repeat' (first | (k_unfold; (try dsimp only)) | ((fail_if_success (with_reducible show wpAny _ _ (call (Value.ref 683) _) _ _ _)); walk1)))
        refine' Mine.lx3_get ?k1 F8 ?k3 ?k4 ?k5 ?k6 (by omega) hA o1 o2 o3 o4 o5 q1 q2 q3 hP.1 ?hi hev2 N9 ?_
        case k1 => k_asm
        case k3 => k_asm
        case k4 => k_asm
        case k5 => k_room
        case k6 => k_units
        case hi => omega
        intro h' v' c' row' k' F' N' hR' hG' hl'
        exact ⟨c', h', k', rfl, F', Mine.news_l3 N', Mine.m3_step hP hev2 hR' hG'⟩
      · rintro c ys hP
        intro D4 h14 tk14 F14 N14 o14
        clear o14
        have hys := Mine.m3_done hP (by omega)
        dsimp only [Mine.lxLed, List.cons_append, List.nil_append] at N14
        (repeat' (first | (k_unfold; (try dsimp only)) | ((fail_if_success (with_reducible show wpAny _ _ (newList _) _ _ _)); walk1)))
        refine Mine.new_few F14 N14 (by show 2 ≤ 100; omega) ?_
        intro l15 h15 F15 N15 lo15
        clear F14 N14
        (repeat' (first | (k_unfold; (try dsimp only)) | ((fail_if_success (with_reducible show wpAny _ _ (binaryOp Operator.Add _ _) _ _ _)); walk1)))
        refine Mine.cat_two (vs := vs) (ws := [_, _]) F15 N15 (by k_mem) (.head _) (by simp only [List.length_cons, List.length_nil]; omega) ?_
        intro l16 h16 F16 N16 lo16
        clear F15 N15
        (repeat' (first | (k_unfold; (try dsimp only)) | ((fail_if_success (with_reducible show wpAny _ _ (compareOp _ _ _) _ _ _)); walk1)))
        refine Mine.lo_eq N16 (.tail _ (.tail _ (.head _))) rfl rfl hys (.head _) (p2.append (.cons (Mine.ev_dat hend) (.cons (Mine.ev_dat hend) .nil))) ?_ (Nat.le_of_ble_eq_true rfl) rfl ?_
        · intro d hd
          rcases List.mem_append.mp hd with h | h
          · exact p3 d h
          · simp only [List.mem_cons, List.not_mem_nil, or_false, or_self] at h
            rw [h]
            exact Mine.end_dat
        k_steps
theorem PySem.Challenge.cw_kq0019_03_holds : PySem.Challenge.rw_kq0019_03.Holds := by
  exact Mine.law_all


