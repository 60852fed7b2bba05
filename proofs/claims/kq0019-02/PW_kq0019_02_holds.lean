import PyProof.Rows.All
import Wide.All
import OpenK.AllK
import Wide.FinOn
import PySem.Challenge.RW_kq0019_02
open PySem PySem.W PyProof.Rows PySem.Calls PySem.Spec
set_option Elab.async false
set_option maxRecDepth 100000
set_option maxHeartbeats 0
set_option rowWalk.seconds 0

namespace Mine
theorem keep_goal {p : Prop} (_ : True) (h : p) : p := h
section
local macro_rules | `(tactic| o_head $_) => `(tactic| refine keep_goal ?hw ?hc)
local macro_rules | `(tactic| w_witness2) => `(tactic| exact trivial)
open_top hd for (PySem.Challenge.rw_kq0019_02.row)
end
end Mine
theorem Mine.walk_off : True := by
  w_top off
  trivial
namespace Mine
theorem dq_attrs : PlainAttrs "collections.deque" :=
  ⟨⟨"collections.deque.__getattribute__", by rw [typeLookup_type, builtinLookup_eq_fast]; kernel_rfl, by decide +kernel⟩, by rw [typeLookup_type, builtinLookup_eq_fast]; kernel_rfl⟩
theorem dq_owner : Manifest.owners.lookup (String.ofList ['e', 'u', 'q', 'e', 'd', '.', 's', 'n', 'o', 'i', 't', 'c', 'e', 'l', 'l', 'o', 'c'].reverse) = some Manifest.sig_collections_deque := by kernel_rfl
theorem dq_slot_append : Slot "collections.deque" "append" "collections.deque.append" :=
  .of (owner := "collections.deque") (n := "append") (by rw [typeLookup_type, builtinLookup_eq_fast]; kernel_rfl) (by decide +kernel) (by decide +kernel) (by decide +kernel)
    (by first | exact .inl (by decide +kernel) | exact .inr (by decide +kernel)) (by rw [isSubtype_type]; kernel_rfl)
theorem dq_entry_append : entryFor table "collections.deque.append" = some Builtin.«collections.deque.append» := entryFor_of_tree (by kernel_rfl)
theorem dq_args_append (a b : Value) : argsOk "collections.deque.append" ⟨[a, b], []⟩ := by
  unfold argsOk; rw [signature?_of (id := "collections.deque.append") (n := ['d', 'n', 'e', 'p', 'p', 'a']) (o := ['e', 'u', 'q', 'e', 'd', '.', 's', 'n', 'o', 'i', 't', 'c', 'e', 'l', 'l', 'o', 'c']) (by kernel_rfl) dq_owner]; kernel_rfl
theorem dq_type_append : typeOf (.builtin "collections.deque.append") = pure (.type "method_descriptor") := by show builtinType _ = _; rw [builtinType_eq_fast]; kernel_rfl
theorem dq_slot_appendleft : Slot "collections.deque" "appendleft" "collections.deque.appendleft" :=
  .of (owner := "collections.deque") (n := "appendleft") (by rw [typeLookup_type, builtinLookup_eq_fast]; kernel_rfl) (by decide +kernel) (by decide +kernel) (by decide +kernel)
    (by first | exact .inl (by decide +kernel) | exact .inr (by decide +kernel)) (by rw [isSubtype_type]; kernel_rfl)
theorem dq_entry_appendleft : entryFor table "collections.deque.appendleft" = some Builtin.«collections.deque.appendleft» := entryFor_of_tree (by kernel_rfl)
theorem dq_args_appendleft (a b : Value) : argsOk "collections.deque.appendleft" ⟨[a, b], []⟩ := by
  unfold argsOk; rw [signature?_of (id := "collections.deque.appendleft") (n := ['t', 'f', 'e', 'l', 'd', 'n', 'e', 'p', 'p', 'a']) (o := ['e', 'u', 'q', 'e', 'd', '.', 's', 'n', 'o', 'i', 't', 'c', 'e', 'l', 'l', 'o', 'c']) (by kernel_rfl) dq_owner]; kernel_rfl
theorem dq_type_appendleft : typeOf (.builtin "collections.deque.appendleft") = pure (.type "method_descriptor") := by show builtinType _ = _; rw [builtinType_eq_fast]; kernel_rfl
theorem dq_slot_pop : Slot "collections.deque" "pop" "collections.deque.pop" :=
  .of (owner := "collections.deque") (n := "pop") (by rw [typeLookup_type, builtinLookup_eq_fast]; kernel_rfl) (by decide +kernel) (by decide +kernel) (by decide +kernel)
    (by first | exact .inl (by decide +kernel) | exact .inr (by decide +kernel)) (by rw [isSubtype_type]; kernel_rfl)
theorem dq_entry_pop : entryFor table "collections.deque.pop" = some Builtin.«collections.deque.pop» := entryFor_of_tree (by kernel_rfl)
theorem dq_args_pop (a : Value) : argsOk "collections.deque.pop" ⟨[a], []⟩ := by
  unfold argsOk; rw [signature?_of (id := "collections.deque.pop") (n := ['p', 'o', 'p']) (o := ['e', 'u', 'q', 'e', 'd', '.', 's', 'n', 'o', 'i', 't', 'c', 'e', 'l', 'l', 'o', 'c']) (by kernel_rfl) dq_owner]; kernel_rfl
theorem dq_type_pop : typeOf (.builtin "collections.deque.pop") = pure (.type "method_descriptor") := by show builtinType _ = _; rw [builtinType_eq_fast]; kernel_rfl
theorem dq_slot_popleft : Slot "collections.deque" "popleft" "collections.deque.popleft" :=
  .of (owner := "collections.deque") (n := "popleft") (by rw [typeLookup_type, builtinLookup_eq_fast]; kernel_rfl) (by decide +kernel) (by decide +kernel) (by decide +kernel)
    (by first | exact .inl (by decide +kernel) | exact .inr (by decide +kernel)) (by rw [isSubtype_type]; kernel_rfl)
theorem dq_entry_popleft : entryFor table "collections.deque.popleft" = some Builtin.«collections.deque.popleft» := entryFor_of_tree (by kernel_rfl)
theorem dq_args_popleft (a : Value) : argsOk "collections.deque.popleft" ⟨[a], []⟩ := by
  unfold argsOk; rw [signature?_of (id := "collections.deque.popleft") (n := ['t', 'f', 'e', 'l', 'p', 'o', 'p']) (o := ['e', 'u', 'q', 'e', 'd', '.', 's', 'n', 'o', 'i', 't', 'c', 'e', 'l', 'l', 'o', 'c']) (by kernel_rfl) dq_owner]; kernel_rfl
theorem dq_type_popleft : typeOf (.builtin "collections.deque.popleft") = pure (.type "method_descriptor") := by show builtinType _ = _; rw [builtinType_eq_fast]; kernel_rfl
theorem dq_slot_len : Slot "collections.deque" "__len__" "collections.deque.__len__" :=
  .of (owner := "collections.deque") (n := "__len__") (by rw [typeLookup_type, builtinLookup_eq_fast]; kernel_rfl) (by decide +kernel) (by decide +kernel) (by decide +kernel)
    (by first | exact .inl (by decide +kernel) | exact .inr (by decide +kernel)) (by rw [isSubtype_type]; kernel_rfl)
theorem dq_entry_len : entryFor table "collections.deque.__len__" = some Builtin.«collections.deque.__len__» := entryFor_of_tree (by kernel_rfl)
theorem dq_args_len (a : Value) : argsOk "collections.deque.__len__" ⟨[a], []⟩ := by
  unfold argsOk; rw [signature?_of (id := "collections.deque.__len__") (n := ['_', '_', 'n', 'e', 'l', '_', '_']) (o := ['e', 'u', 'q', 'e', 'd', '.', 's', 'n', 'o', 'i', 't', 'c', 'e', 'l', 'l', 'o', 'c']) (by kernel_rfl) dq_owner]; kernel_rfl
theorem dq_slot_init : Slot "collections.deque" "__init__" "collections.deque.__init__" :=
  .of (owner := "collections.deque") (n := "__init__") (by rw [typeLookup_type, builtinLookup_eq_fast]; kernel_rfl) (by decide +kernel) (by decide +kernel) (by decide +kernel)
    (by first | exact .inl (by decide +kernel) | exact .inr (by decide +kernel)) (by rw [isSubtype_type]; kernel_rfl)
theorem dq_entry_init : entryFor table "collections.deque.__init__" = some Builtin.«collections.deque.__init__» := entryFor_of_tree (by kernel_rfl)

abbrev dqO (vs : List Value) (n : Int) : Obj := { cls := .type "collections.deque", data := .fields (.none :: rawInt n :: vs).toArray }
section
variable {prog : Program} {w : World} {A : Around} {E : Value → Shared → Prop} {s : Shared} {h₀ : Heap} {L : Addr} {m : Str → Option Value} {news news' : List (Addr × Obj)} {q : Addr} {vs : List Value} {n : Int}
theorem dq_typeIs (ho : s.heap.get? q = some (dqO vs n)) : s.TypeIs (.ref q) "collections.deque" := ⟨_, ho, rfl⟩
theorem dq_method {M : Model} {name : Str} {id : String} {pl : Sem Bool} {Q : Value × List Value → Shared → Prop} (slot : Slot "collections.deque" name id) (hty : typeOf (.builtin id) = pure (.type "method_descriptor"))
    (N : News h₀ L s.heap news) (hm : (q, dqO vs n) ∈ news) (h : Q (.builtin id, [.ref q]) s) : wpAny M A (getMethod (.ref q) name pl) Q E s :=
  getMethod_builtin (dq_typeIs (N.get hm)) dq_attrs slot hty (fun a e => by cases e; exact ⟨_, N.get hm, rfl⟩) h
theorem dq_change {f : Array Value → Array Value} {vs' : List Value} {Q : Unit → Shared → Prop} (F : Fr h₀ L s.heap m) (N : News h₀ L s.heap news) (U : Upd q (dqO vs n) (dqO vs' (n + 1)) news news')
    (hf : f vs.toArray = vs'.toArray) (hsz : vs'.length ≤ 1000000)
    (h : ∀ h', Fr h₀ L h' m → News h₀ L h' news' → Q () { s with heap := h' }) : wpAny (model prog w) A (Builtin.Deque.change (.ref q) f) Q E s := by
  obtain ⟨pre, post, rfl, rfl, a, b⟩ := U.split
  have z := N (q, dqO vs n) (List.mem_append.mpr (.inr (.head _)))
  unfold Builtin.Deque.change Builtin.Deque.state field fieldsOf
  dsimp only
  refine wpAny_bind (wpAny_bind (wpAny_bind (wpAny_bind (wpAny_load z.1 (wpAny_pure ?_)))))
  have e1 : (Value.none :: rawInt n :: vs).toArray[1]? = some (rawInt n) := by simp
  rw [e1]
  refine wpAny_pure (wpAny_pure ?_)
  unfold updateFields
  refine wpAny_bind (wpAny_load z.1 ?_)
  dsimp only
  have e : (Obj.mapFields (fun vs => #[vs.getD 0 .none, rawInt (if true = true then n + 1 else n)] ++ f (vs.extract 2 vs.size)) (dqO vs n)) = dqO vs' (n + 1) := by
    unfold Obj.mapFields
    simp [hf]
  have U' := news_upd F N a b e rfl
  refine wpAny_bind (wpAny_update z.1 ?_)
  unfold lookBehind
  have g := (U'.2 (q, dqO vs' (n + 1)) (by simp)).1
  refine wpAny_bind (wpAny_loadPart g ?_)
  have k : (dqO vs' (n + 1)).data.pastItsLine = none := by
    show (Data.fields _).pastItsLine = none
    unfold Data.pastItsLine
    simp [sizeLine]
    omega
  rw [k]
  exact wpAny_pure (h _ U'.1 U'.2)

theorem dq_append {x : Value} {Q : Value → Shared → Prop} (F : Fr h₀ L s.heap m) (N : News h₀ L s.heap news) (U : Upd q (dqO vs n) (dqO (vs ++ [x]) (n + 1)) news news') (hsz : vs.length ≤ 900000)
    (h : ∀ h', Fr h₀ L h' m → News h₀ L h' news' → Q .none { s with heap := h' }) : wpAny (model prog w) A (call (.builtin "collections.deque.append") [.ref q, x]) Q E s := by
  have hm : (q, dqO vs n) ∈ news := by obtain ⟨pre, post, rfl, _⟩ := U.split; simp
  refine wpAny_call_entry dq_slot_append (dq_typeIs (N.get hm)) dq_entry_append ?_ (dq_args_append _ _)
  show wpAny _ _ (Builtin.Deque.pushRight (.ref q) x >>= fun _ => ret .none) _ _ s
  unfold Builtin.Deque.pushRight
  refine wpAny_bind (wpAny_bind (dq_change F N U (by simp) (by simp; omega) fun h' F' N' => ?_))
  have hm' : (q, dqO (vs ++ [x]) (n + 1)) ∈ news' := by obtain ⟨pre, post, _, rfl, _⟩ := U.split; simp
  have g := N'.get hm'
  unfold Builtin.Deque.maxlen field fieldsOf
  refine wpAny_bind (wpAny_bind (wpAny_bind (wpAny_bind (wpAny_load g (wpAny_pure ?_)))))
  have e1 : (Value.none :: rawInt (n + 1) :: (vs ++ [x])).toArray[0]? = some .none := by simp
  rw [e1]
  exact wpAny_pure (wpAny_pure (wpAny_pure (wpAny_pure ⟨_, rfl, h _ F' N'⟩)))
theorem dq_appendleft {x : Value} {Q : Value → Shared → Prop} (F : Fr h₀ L s.heap m) (N : News h₀ L s.heap news) (U : Upd q (dqO vs n) (dqO (x :: vs) (n + 1)) news news') (hsz : vs.length ≤ 900000)
    (h : ∀ h', Fr h₀ L h' m → News h₀ L h' news' → Q .none { s with heap := h' }) : wpAny (model prog w) A (call (.builtin "collections.deque.appendleft") [.ref q, x]) Q E s := by
  have hm : (q, dqO vs n) ∈ news := by obtain ⟨pre, post, rfl, _⟩ := U.split; simp
  refine wpAny_call_entry dq_slot_appendleft (dq_typeIs (N.get hm)) dq_entry_appendleft ?_ (dq_args_appendleft _ _)
  show wpAny _ _ (Builtin.Deque.pushLeft (.ref q) x >>= fun _ => ret .none) _ _ s
  unfold Builtin.Deque.pushLeft
  refine wpAny_bind (wpAny_bind (dq_change F N U (by simp) (by simp; omega) fun h' F' N' => ?_))
  have hm' : (q, dqO (x :: vs) (n + 1)) ∈ news' := by obtain ⟨pre, post, _, rfl, _⟩ := U.split; simp
  have g := N'.get hm'
  unfold Builtin.Deque.maxlen field fieldsOf
  refine wpAny_bind (wpAny_bind (wpAny_bind (wpAny_bind (wpAny_load g (wpAny_pure ?_)))))
  have e1 : (Value.none :: rawInt (n + 1) :: (x :: vs)).toArray[0]? = some .none := by simp
  rw [e1]
  exact wpAny_pure (wpAny_pure (wpAny_pure (wpAny_pure ⟨_, rfl, h _ F' N'⟩)))
theorem dq_pop {x : Value} {Q : Value → Shared → Prop} (F : Fr h₀ L s.heap m) (N : News h₀ L s.heap news) (U : Upd q (dqO (vs ++ [x]) n) (dqO vs (n + 1)) news news') (hsz : vs.length ≤ 900000)
    (h : ∀ h', Fr h₀ L h' m → News h₀ L h' news' → Q x { s with heap := h' }) : wpAny (model prog w) A (call (.builtin "collections.deque.pop") [.ref q]) Q E s := by
  have hm : (q, dqO (vs ++ [x]) n) ∈ news := by obtain ⟨pre, post, rfl, _⟩ := U.split; simp
  have g := N.get hm
  refine wpAny_call_entry dq_slot_pop (dq_typeIs (N.get hm)) dq_entry_pop ?_ (dq_args_pop _)
  show wpAny _ _ (Builtin.«collections.deque.pop» ⟨[.ref q], []⟩) _ _ s
  unfold Builtin.«collections.deque.pop» selfOnly noKeywords
  refine wpAny_bind (wpAny_bind (wpAny_pure (wpAny_pure ?_)))
  unfold Builtin.Deque.items fieldsOf
  refine wpAny_bind (wpAny_bind (wpAny_bind (wpAny_load g (wpAny_pure ?_))))
  refine wpAny_pure ?_
  have e1 : ((Value.none :: rawInt n :: (vs ++ [x])).toArray.extract 2 (Value.none :: rawInt n :: (vs ++ [x])).toArray.size).back? = some x := by
    have e2 : (vs ++ [x]).take (vs.length + 1) = vs ++ [x] := List.take_of_length_le (by simp)
    simp [e2]
  rw [e1]
  refine wpAny_bind (dq_change F N U (by simp) (by omega) fun h' F' N' => ?_)
  exact wpAny_pure ⟨_, rfl, h _ F' N'⟩
theorem dq_popleft {x : Value} {Q : Value → Shared → Prop} (F : Fr h₀ L s.heap m) (N : News h₀ L s.heap news) (U : Upd q (dqO (x :: vs) n) (dqO vs (n + 1)) news news') (hsz : vs.length ≤ 900000)
    (h : ∀ h', Fr h₀ L h' m → News h₀ L h' news' → Q x { s with heap := h' }) : wpAny (model prog w) A (call (.builtin "collections.deque.popleft") [.ref q]) Q E s := by
  have hm : (q, dqO (x :: vs) n) ∈ news := by obtain ⟨pre, post, rfl, _⟩ := U.split; simp
  have g := N.get hm
  refine wpAny_call_entry dq_slot_popleft (dq_typeIs (N.get hm)) dq_entry_popleft ?_ (dq_args_popleft _)
  show wpAny _ _ (Builtin.«collections.deque.popleft» ⟨[.ref q], []⟩) _ _ s
  unfold Builtin.«collections.deque.popleft» selfOnly noKeywords
  refine wpAny_bind (wpAny_bind (wpAny_pure (wpAny_pure ?_)))
  unfold Builtin.Deque.items fieldsOf
  refine wpAny_bind (wpAny_bind (wpAny_bind (wpAny_load g (wpAny_pure ?_))))
  refine wpAny_pure ?_
  have e1 : ((Value.none :: rawInt n :: (x :: vs)).toArray.extract 2 (Value.none :: rawInt n :: (x :: vs)).toArray.size)[0]? = some x := by simp
  rw [e1]
  refine wpAny_bind (dq_change F N U (by simp) (by omega) fun h' F' N' => ?_)
  exact wpAny_pure ⟨_, rfl, h _ F' N'⟩
theorem dq_truthy {Q : Bool → Shared → Prop} (N : News h₀ L s.heap news) (hm : (q, dqO vs n) ∈ news) (hsz : vs.length ≤ 900000)
    (h : Q (!vs.isEmpty) { s with toks := s.toks + 1 + 1 }) : wpAny (model prog w) A (truthy (.ref q)) Q E s := by
  have g := N.get hm
  have hT := dq_typeIs g
  have key : wpAny (model prog w) A (runValue (.builtin "len" ⟨[.ref q], []⟩)) (fun r s' => r = .int vs.length (s.toks + 1) ∧ Q (!vs.isEmpty) s') E s := by
    refine wpAny_runValue (codeAny_builtin entry_len ?_)
    rw [Around.under_plainId plain_len _]
    unfold Builtin.«len»
    refine wpAny_bind (m := oneArg "len" _) (wpAny_pure ?_)
    refine wpAny_bind (m := callSpecial? (.ref q) (Str.ofString "__len__")) (wpAny_callSpecial?_slot (name := Str.ofString "__len__") hT dq_slot_len
      (wpAny_call_entry dq_slot_len hT dq_entry_len ?_ (dq_args_len _)))
    show wpAny _ _ (Builtin.«collections.deque.__len__» ⟨[.ref q], []⟩) _ _ _
    unfold Builtin.«collections.deque.__len__» slotArgs Builtin.Deque.size fieldsOf
    simp only [List.isEmpty_nil, Bool.not_true, Bool.false_eq_true, ↓reduceIte, bind_assoc, List.length_nil, bne_self_eq_false]
    refine wpAny_bind (wpAny_pure ?_)
    dsimp only
    refine wpAny_bind (wpAny_bind (wpAny_load g (wpAny_pure ?_)))
    refine wpAny_bind (wpAny_pure ?_)
    have e1 : (Value.none :: rawInt n :: vs).toArray.size - 2 = vs.length := by simp
    rw [e1]
    refine wpAny_bind (wpAny_mkInt (wpAny_pure ⟨_, rfl, ?_⟩))
    refine wpAny_bind (wpAny_holding (wpAny_pure ?_))
    refine wpAny_bind (wpAny_letGo ?_)
    show wpAny _ _ (if ((vs.length : Nat) : Int) < 0 then _ else _) _ _ _
    rw [if_neg (by omega)]
    show wpAny _ _ (if ((vs.length : Nat) : Int) ≥ 2 ^ 63 then _ else _) _ _ _
    rw [if_neg (by omega)]
    exact wpAny_bind (wpAny_mkInt (wpAny_pure ⟨rfl, h⟩))
  unfold truthy
  refine wpAny_bind (wpAny_callSpecial?_none (name := Str.ofString "__bool__") hT (by rw [typeLookup_type, builtinLookup_eq_fast]; kernel_rfl) ?_)
  refine wpAny_bind (wpAny_specialOf (name := Str.ofString "__len__") hT dq_slot_len.lookup ?_)
  refine wpAny_bind (wpAny_mono key (fun r s' h' => ?_) fun _ _ e => e)
  obtain ⟨rfl, hq⟩ := h'
  refine wpAny_pure ?_
  have e : ((vs.length : Int) != 0) = !vs.isEmpty := by cases vs <;> simp <;> omega
  first | exact hq | (show Q ((vs.length : Int) != 0) s'; rw [e]; exact hq)
end
end Mine

namespace Mine
theorem dq_mro : mroOf (.type "collections.deque") = pure [.type "collections.deque", .type "object"] := by rw [mroOf_type]; kernel_rfl
theorem dq_lookup_new : typeLookup (.type "collections.deque") "__new__" = pure (some (.builtin "collections.deque.__new__")) := by rw [typeLookup_type, builtinLookup_eq_fast]; kernel_rfl
theorem dq_sub_self : isSubtype (.type "collections.deque") (.type "collections.deque") = pure true := by rw [isSubtype_type]; kernel_rfl
theorem dq_called : TypeCalled "collections.deque" "collections.deque.__new__" "collections.deque.__init__" :=
  ⟨by decide +kernel, by decide +kernel, ⟨_, _, dq_mro⟩, madeBy_type dq_mro dq_lookup_new (by decide +kernel), by decide +kernel, by rw [isSubtype_type]; kernel_rfl, dq_slot_init⟩
theorem dq_typeCall : checkTypeCall "collections.deque" ⟨[], []⟩ = pure () := by kernel_rfl
theorem dq_newCall : checkBuiltinCall "collections.deque.__new__" ⟨[.type "collections.deque"], []⟩ = pure () := by kernel_rfl
theorem dq_entry_new : entryFor table "collections.deque.__new__" = some Builtin.«collections.deque.__new__» := entryFor_of_tree (by kernel_rfl)
theorem dq_plain_new : plainId "collections.deque.__new__" = true := by decide +kernel
section
variable {prog : Program} {w : World} {A : Around} {E : Value → Shared → Prop} {s : Shared}
theorem dq_code_new {Q₁ : Value → Shared → Prop}
    (h : Q₁ (.ref s.heap.objs.size) { s with heap := s.heap.push (dqO [] 0) }) :
    codeAny (model prog w) A (.call (.builtin "collections.deque.__new__") ⟨[.type "collections.deque"], []⟩) (wants Q₁ E) s := by
  refine codeAny_of_tree ?_
  show wpAny _ A.in1 (do checkBuiltinCall "collections.deque.__new__" ⟨[.type "collections.deque"], []⟩; again (.builtin "collections.deque.__new__" ⟨[.type "collections.deque"], []⟩)) _ _ s
  refine wpAny_bind (wpAny_of_eq dq_newCall (wpAny_pure ⟨plainId_quiet dq_plain_new _, codeAny_builtin dq_entry_new ?_⟩))
  rw [Around.under_plainId dq_plain_new _]
  show wpAny _ _ (Builtin.Deque.newArgs Builtin.Deque.ty ⟨[.type "collections.deque"], []⟩ >>= fun p => Builtin.Deque.new p.1 #[] none >>= fun v => ret v) _ _ s
  refine wpAny_bind ?_
  unfold Builtin.Deque.newArgs
  dsimp only
  refine wpAny_bind (wpAny_pure ?_)
  simp only [Bool.not_true, Bool.false_eq_true, if_false]
  refine wpAny_bind (wpAny_of_eq dq_sub_self ?_)
  simp only [Bool.not_true, Bool.false_eq_true, if_false]
  refine wpAny_pure ?_
  refine wpAny_bind ?_
  unfold Builtin.Deque.new
  have hd : typeHasDict (.type "collections.deque") = false := by decide +kernel
  have hz : ¬ (#[] : Array Value).size > sizeLine := by decide
  dsimp only
  rw [if_neg hz, hd]
  simp only [Bool.false_eq_true, if_false]
  refine wpAny_bind (wpAny_pure ?_)
  exact wpAny_newObj_type (wpAny_pure h) (by show _ ≤ _; decide)
theorem dq_sig_init : Manifest.signature? "collections.deque.__init__" = some ⟨.keywords, "deque", "deque", .self, [⟨"iterable", .posOrKw, false⟩, ⟨"maxlen", .posOrKw, false⟩]⟩ := by
  rw [signature?_of (id := "collections.deque.__init__") (n := ['_', '_', 't', 'i', 'n', 'i', '_', '_']) (o := ['e', 'u', 'q', 'e', 'd', '.', 's', 'n', 'o', 'i', 't', 'c', 'e', 'l', 'l', 'o', 'c']) (by kernel_rfl) dq_owner]; kernel_rfl
theorem dq_args_init (a : Value) : argsOk "collections.deque.__init__" ⟨[a], []⟩ := by
  unfold argsOk; rw [signature?_of (id := "collections.deque.__init__") (n := ['_', '_', 't', 'i', 'n', 'i', '_', '_']) (o := ['e', 'u', 'q', 'e', 'd', '.', 's', 'n', 'o', 'i', 't', 'c', 'e', 'l', 'l', 'o', 'c']) (by kernel_rfl) dq_owner]; kernel_rfl

theorem dq_clear0 {a : Addr} {R : Fin → Shared → Prop} {E' : Value → Shared → Prop} {A' : Around} (g : s.heap.get? a = some (dqO [] 0)) (h : ∀ s', s' = s → R (.done (.ret .none)) s') :
    wpAny (model prog w) A' (Builtin.Deque.clear (.ref a) >>= fun _ => ret .none) R E' s := by
  unfold Builtin.Deque.clear Builtin.Deque.items fieldsOf
  refine wpAny_bind (wpAny_bind (wpAny_bind (wpAny_bind (wpAny_load g (wpAny_pure ?_)))))
  refine wpAny_pure ?_
  have e1 : ((Value.none :: rawInt 0 :: ([] : List Value)).toArray.extract 2 (Value.none :: rawInt 0 :: ([] : List Value)).toArray.size).size > 0 ↔ False := by simp
  simp only [e1, if_false]
  exact wpAny_pure (wpAny_pure (h _ rfl))
theorem dq_new0 {Q : Value → Shared → Prop}
    (h : ∀ h', h'.objs.size = s.heap.objs.size + 1 → (∀ b o, s.heap.get? b = some o → h'.get? b = some o) → h'.get? s.heap.objs.size = some (dqO [] 0) → Q (.ref s.heap.objs.size) { s with heap := h' }) :
    wpAny (model prog w) A (call (.type "collections.deque") []) Q E s := by
  obtain ⟨c, tl, hmro⟩ := dq_called.mro
  have hmade := dq_called.made
  have hsub := dq_called.sub
  refine wpAny_call (codeAny_of_tree ?_)
  show wpAny _ _ (callAny (.type "collections.deque") _) _ _ _
  refine wpAny_pure ⟨Code.quiet_builtin _ (by decide +kernel), codeAny_builtin F.entry_type_call ?_⟩
  rw [Around.under_plain (weight_type_call_type "collections.deque" [] []) rfl]
  have h1 := dq_called.notType
  have h2 := dq_called.canCreate
  have hct := dq_typeCall
  repeat (any_goals (first | assumption | wp_step))
  refine codeAny_mono (dq_code_new (E := E) (Q₁ := fun obj s₁ => obj = .ref s.heap.objs.size ∧ s₁ = { s with heap := s.heap.push (dqO [] 0) }) ⟨rfl, rfl⟩) fun r s₁ hr => ?_
  cases r with
  | error e => exact hr
  | ok fl =>
    cases fl with
    | ret obj =>
      obtain ⟨rfl, rfl⟩ := hr
      have hS : (s.heap.push (dqO [] 0)).get? s.heap.objs.size = some (dqO [] 0) := Heap.get?_push_size _ rfl
      have hT : Shared.TypeIs { s with heap := s.heap.push (dqO [] 0) } (.ref s.heap.objs.size) "collections.deque" := ⟨_, hS, rfl⟩
      have hli := dq_called.init.lookup
      have hbi := dq_called.init.bind (.ref s.heap.objs.size)
      repeat (any_goals (first | assumption | wp_step))
      refine codeAny_mono (codeAny_call_builtin (R := wants (fun r s₂ => r = .none ∧ Q (.ref s.heap.objs.size) s₂) E) dq_called.init.plain dq_entry_init (dq_called.init.check _ _ _ _ _ _ _ _ hT (dq_args_init _) ?_)) fun r₂ s₂ hr₂ => ?_
      · show wpAny _ _ (Builtin.«collections.deque.__init__» ⟨[.ref s.heap.objs.size], []⟩) _ _ _
        have e0 : Builtin.«collections.deque.__init__» ⟨[.ref s.heap.objs.size], []⟩ = (setField (.ref s.heap.objs.size) 0 .none >>= fun _ => Builtin.Deque.clear (.ref s.heap.objs.size) >>= fun _ => ret .none) := by
          first | rfl | (unfold Builtin.«collections.deque.__init__»; simp)
        rw [e0]
        unfold setField updateField
        refine wpAny_bind (wpAny_bind (wpAny_load hS ?_))
        have e1 : 0 < (Value.none :: rawInt 0 :: ([] : List Value)).toArray.size := by simp
        dsimp only
        rw [if_pos e1]
        have e2 : Obj.mapFields (·.setIfInBounds 0 .none) (dqO [] 0) = dqO [] 0 := by unfold Obj.mapFields; rfl
        refine wpAny_update hS ?_
        have sb := Heap.SameBut.update (s.heap.push (dqO [] 0)) s.heap.objs.size (Obj.mapFields (·.setIfInBounds 0 .none))
        have g2 : ((s.heap.push (dqO [] 0)).update s.heap.objs.size (Obj.mapFields (·.setIfInBounds 0 .none))).get? s.heap.objs.size = some (dqO [] 0) := by
          rw [Heap.get?_update_self _ hS (by rw [e2]; rfl), e2]
        refine dq_clear0 (s := { s with heap := (s.heap.push (dqO [] 0)).update s.heap.objs.size (Obj.mapFields (·.setIfInBounds 0 .none)) }) g2 ?_
        rintro _ rfl
        refine ⟨rfl, h _ (by rw [sb.1, Heap.size_push]) (fun b o e => ?_) g2⟩
        rw [sb.2 b (Nat.ne_of_lt (Heap.lt_size e))]
        exact Heap.get?_push_of_some _ e
      · cases r₂ with
        | error e => exact hr₂
        | ok fl₂ =>
          cases fl₂ with
          | ret r =>
            obtain ⟨rfl, hq⟩ := hr₂
            repeat (any_goals (first | assumption | wp_step))
          | _ => exact hr₂.elim
    | _ => exact hr.elim
theorem dq_new {h₀ : Heap} {L : Addr} {m : Str → Option Value} {news : List (Addr × Obj)} {Q : Value → Shared → Prop} (F : Fr h₀ L s.heap m) (N : News h₀ L s.heap news)
    (h : ∀ q h', Fr h₀ L h' m → News h₀ L h' ((q, dqO [] 0) :: news) → (∀ p ∈ news, p.1 < q) → Q (.ref q) { s with heap := h' }) : wpAny (model prog w) A (call (.type "collections.deque") []) Q E s := by
  refine dq_new0 fun h' hsz hk hg => h _ h' ?_ ?_ fun p hp => Heap.lt_size (N p hp).1
  · obtain ⟨oL, a1, a2, hL, a3⟩ := F.ns
    exact ⟨⟨oL, a1, a2, hk _ _ hL, a3⟩, fun b o' e => hk _ _ (F.keep b o' e), F.above⟩
  · obtain ⟨oL, _, _, hL, _⟩ := F.ns
    intro p hp
    rcases List.mem_cons.mp hp with rfl | hp
    · refine ⟨hg, Nat.ne_of_gt (Heap.lt_size hL), ?_⟩
      cases hq : h₀.get? s.heap.objs.size with
      | none => rfl
      | some o' => exact absurd (Heap.lt_size (F.keep _ _ hq)) (Nat.lt_irrefl _)
    · exact ⟨hk _ _ (N p hp).1, (N p hp).2.1, (N p hp).2.2⟩
end
end Mine

namespace Mine
abbrev ent (P : Params) (k : String) (t : Tok) (v : Value) : DictEntry := ⟨PyData.keyHash P (Str.ofString k), .str (Str.ofString k) t, v⟩
abbrev ar (hd : Option Value) (d : Nat) (fs : List Env) (gs : Option (List Code)) (u : Nat) : Around := { handled := hd, depth := d, frames := some fs, guards := gs, units := u }
abbrev prog : Program := PySem.Challenge.pw_kq0019_02
abbrev fenv (ns : List (Str × NameKind)) (ig ic : Bool) (mo : List (Str × Const)) (gl : Addr) (cs : List (Str × Addr)) (q : Str) (fo : Option Addr) (cdv : Value) (bi : Addr) (L : Addr) : Env :=
  { scope := { kind := .function, names := ns, isGenerator := ig, isCoroutine := ic, more := mo }, locals := L, globals := gl, cells := cs, qual := q, func := fo, code := cdv, frame := some L, builtins := bi }
/-- the objects of a StringIO: x its text, p its place, toks of the keys kt -/
theorem units_kw (A : Around) (C : Addr) (vals : List Value) (kw : List (Str × Value)) : (A.under (.builtin "type.__call__" ⟨.ref C :: vals, kw⟩)).units = A.units + 1 := rfl
structure IoT where
  (a b c d e : Tok)
abbrev ioD (P : Params) (kt : IoT) (x : Str) (p : Nat) (v : Tok) : Obj := dictOf [ent P "_StringIO__newline" kt.a (.str (Str.ofString "\n") kt.b), ent P "_StringIO__buf" kt.c (.str x kt.d), ent P "_StringIO__pos" kt.e (.int p v)] 3
structure LxT where
  (k0 k1 k2 k3 k4 k5 k6 k7 k8 k9 k10 k11 k12 k13 k14 k15 k16 k17 k18 : Tok)
  (c4 c5 c6 c8 c9 c10 c14 c18 : Tok)
/-- the lexer's dict: io its stream, f its name, ev its eof, cm its commenters, wc its wordchars, sp whitespace_split, sv its state, ln its line, tk its token -/
abbrev lexD (P : Params) (T : LxT) (b sp : Bool) (ev : Value) (cm wc : Str) (pb fs io : Addr) (f sv : Value) (ln : Int) (tl : Tok) (tk : Str) (tt : Tok) : Obj := dictOf [
  ent P "instream" T.k0 (.ref io), ent P "infile" T.k1 f, ent P "posix" T.k2 (.bool b), ent P "eof" T.k3 ev, ent P "commenters" T.k4 (.str cm T.c4), ent P "wordchars" T.k5 (.str wc T.c5),
  ent P "whitespace" T.k6 (.str (Str.ofString " \t\x0d\n") T.c6), ent P "whitespace_split" T.k7 (.bool sp), ent P "quotes" T.k8 (.str (Str.ofString "'\"") T.c8), ent P "escape" T.k9 (.str (Str.ofString "\\") T.c9),
  ent P "escapedquotes" T.k10 (.str (Str.ofString "\"") T.c10), ent P "state" T.k11 sv, ent P "pushback" T.k12 (.ref pb), ent P "lineno" T.k13 (.int ln tl), ent P "debug" T.k14 (.int 0 T.c14),
  ent P "token" T.k15 (.str tk tt), ent P "filestack" T.k16 (.ref fs), ent P "source" T.k17 .none, ent P "_punctuation_chars" T.k18 (.str (Str.ofString "") T.c18)] 19
def ch1 (x : Str) (p : Nat) : Str := ⟨(x.cps.toList.drop p |>.take 1).toArray⟩
end Mine
namespace Mine
theorem sp_is : Str.ofString " " = ⟨#[32]⟩ := by decide +kernel
theorem slice_plus {x : Str} {a b : Int} (h0 : 0 ≤ a) (h : a ≤ b) (hb : b ≤ x.length) :
    Txt.slice (Txt.slice x (some a) (some b) ++ Str.ofString " ") none (some (-1)) = ⟨((x.cps.toList.drop a.toNat).take (b - a).toNat).toArray⟩ := by
  have e1 := eq_of_beq (slice_closes (x := x) (i := a) (j := b) ⟨h0, h, by simpa [Str.length] using hb⟩)
  rw [e1, sp_is]
  generalize (x.cps.toList.drop a.toNat).take (b - a).toNat = l
  have e2 : ((⟨l.toArray⟩ : Str) ++ (⟨#[32]⟩ : Str)) = ⟨(l ++ [32]).toArray⟩ := by
    show Str.append _ _ = _
    simp [Str.append]
  rw [e2]
  have hl : ((⟨(l ++ [32]).toArray⟩ : Str).length : Int) = l.length + 1 := by simp [Str.length]
  have e3 := eq_of_beq (slice_closes_to_neg (x := ⟨(l ++ [32]).toArray⟩) (j := -1) (k := l.length) (by omega) (by omega) (by omega))
  rw [e3]
  simp
theorem ch1_end {x : Str} {pos : Nat} {a b : Int} (ha : a = pos) (hb : b = if pos + 1 < x.length then (pos : Int) + 1 else x.length) (hp : pos < x.length) :
    Txt.slice (Txt.slice x (some a) (some b) ++ Str.ofString " ") none (some (-1)) = ch1 x pos := by
  subst ha
  have hb2 : b = (pos : Int) + 1 := by split at hb <;> omega
  subst hb2
  rw [slice_plus (by omega) (by omega) (by omega)]
  unfold ch1
  congr 3
  omega
theorem ch1_over {x : Str} {pos : Nat} (h : (x.length : Int) ≤ pos) : ch1 x pos = Str.ofString "" := by
  have e : Str.ofString "" = ⟨#[]⟩ := by decide +kernel
  rw [e]
  unfold ch1
  have : x.cps.toList.drop pos = [] := List.drop_of_length_le (by simp [Str.length] at h ⊢; omega)
  rw [this]; rfl
end Mine

local macro_rules | `(tactic| k_room) => `(tactic| ((try simp only [depth_under_make, depth_under_kw, depth_in1, depth_deeper, depth_caller, recursionLimit]); (try dsimp only); first | omega | decide))
local macro_rules | `(tactic| k_units) => `(tactic| ((try simp only [cLine, Around.deeper_units, Around.in1_units, units_under_make, Mine.units_kw]); (try dsimp only); first | omega | exact Nat.le_of_ble_eq_true rfl))
local macro_rules | `(tactic| k_all) => `(tactic| assumption)
local macro_rules | `(tactic| walk_at "subscriptTail Attribute") => `(tactic| (k_here; k_dflt (refine kba_turn (value' := PySem.Expr.Name (PySem.Str.ofString "_") ⟨0, 0, 0, 0⟩) (fun _ => rfl) ?_)))
local macro_rules | `(tactic| walk_at "subscriptTail BinOp") => `(tactic| (k_here; k_dflt (refine kba_turn (value' := PySem.Expr.Name (PySem.Str.ofString "_") ⟨0, 0, 0, 0⟩) (fun _ => rfl) ?_)))

namespace Mine
section
variable {w : World} {A₀ : Around} {base h₀ : Heap} {outer : List Env} {L : Addr} {m mg mb : Str → Option Value} {loose : List Str} {mean : ExcName → Option Value} {s : Shared} {Q E : Value → Shared → Prop} {p : Program}
  {hdl : Option Value} {d u : Nat} {gs : Option (List Code)} {rest : List (Addr × Obj)} {ns : List (Str × NameKind)} {ig ic : Bool} {mo : List (Str × Const)} {gl bi : Addr} {cs : List (Str × Addr)} {qn : Str} {fo : Option Addr} {cdv : Value}
theorem read1_end {h' : Heap} {io iod : Addr} {x y : Str} {pos : Nat} {q : Int} {kt : IoT} {t t' k : Tok}
  (hR : ∀ h' t t' k, Fr h₀ L h' m → News h₀ L h' ((io, instObj 587 iod) :: (iod, ioD w.params kt x (if pos < x.length then pos + 1 else pos) t') :: rest) → Q (.str (ch1 x pos) t) { s with heap := h', toks := k })
  (e1 : y = ch1 x pos) (e2 : q = ((if pos < x.length then pos + 1 else pos : Nat) : Int)) (F : Fr h₀ L h' m)
  (N : News h₀ L h' ((io, instObj 587 iod) :: (iod, dictOf [ent w.params "_StringIO__newline" kt.a (.str (Str.ofString "\n") kt.b), ent w.params "_StringIO__buf" kt.c (.str x kt.d), ent w.params "_StringIO__pos" kt.e (.int q t')] 3) :: rest)) :
  Q (.str y t) { s with heap := h', toks := k } := by
  subst e1 e2
  exact hR h' t t' k F N
theorem read1 {io iod : Addr} {x : Str} {pos : Nat} {kt : IoT} {t2 tk : Tok}
  (B : Below A₀ base outer h₀) (F : Fr h₀ L s.heap m) (X : (hd.heap_1 w.params).In h₀) (T : Top p loose mean mg mb h₀) (hdp : d < 980) (hun : u < 9800)
  (hio : @LT.lt Nat _ iod io) (hx : x.length ≤ 100000) (hrest : ∀ p ∈ rest, p.1 ≠ iod)
  (N : News h₀ L s.heap ((io, instObj 587 iod) :: (iod, ioD w.params kt x pos t2) :: rest))
  (hR : ∀ h' t t' k, Fr h₀ L h' m → News h₀ L h' ((io, instObj 587 iod) :: (iod, ioD w.params kt x (if pos < x.length then pos + 1 else pos) t') :: rest) → Q (.str (ch1 x pos) t) { s with heap := h', toks := k })
  : wpAny (model prog w) (ar hdl d (fenv ns ig ic mo gl cs qn fo cdv bi L :: outer) gs u) (call (.ref 533) [.ref io, .int 1 tk]) Q E s := by
  refine wpAny_call ?_
  k_enter
  k_steps
  · have e := ch1_over (x := x) (pos := pos) (by assumption)
    refine read1_end hR e.symm ?_ (by assumption) (by assumption)
    rw [if_neg (by omega)]
  · refine read1_end hR (ch1_end rfl ?_ (by omega)) ?_ (by assumption) (by assumption)
    · rw [if_pos (by omega)]
    · rw [if_pos (by omega)]; omega
  · refine read1_end hR (ch1_end rfl ?_ (by omega)) ?_ (by assumption) (by assumption)
    · rw [if_neg (by omega)]
    · rw [if_pos (by omega)]; omega
theorem read_c {io iod : Addr} {x : Str} {pos c : Nat} {r : List Nat} {kt : IoT} {t2 tk : Tok}
  (B : Below A₀ base outer h₀) (F : Fr h₀ L s.heap m) (X : (hd.heap_1 w.params).In h₀) (T : Top p loose mean mg mb h₀) (hdp : d < 980) (hun : u < 9800)
  (hio : @LT.lt Nat _ iod io) (hx : x.length ≤ 100000) (hrest : ∀ p ∈ rest, p.1 ≠ iod) (hc : x.cps.toList.drop pos = c :: r)
  (N : News h₀ L s.heap ((io, instObj 587 iod) :: (iod, ioD w.params kt x pos t2) :: rest))
  (hR : ∀ h' t t' k, Fr h₀ L h' m → News h₀ L h' ((io, instObj 587 iod) :: (iod, ioD w.params kt x (pos + 1) t') :: rest) → Q (.str ⟨#[c]⟩ t) { s with heap := h', toks := k })
  : wpAny (model prog w) (ar hdl d (fenv ns ig ic mo gl cs qn fo cdv bi L :: outer) gs u) (call (.ref 533) [.ref io, .int 1 tk]) Q E s := by
  have hl : pos < x.length := by
    have h := congrArg List.length hc
    simp [Str.length] at h ⊢
    omega
  have e : ch1 x pos = ⟨#[c]⟩ := by unfold ch1; rw [hc]; rfl
  refine read1 B F X T hdp hun hio hx hrest N fun h' t t' k F' N' => ?_
  rw [if_pos hl] at N'
  rw [e]
  exact hR h' t t' k F' N'
theorem read_e {io iod : Addr} {x : Str} {pos : Nat} {kt : IoT} {t2 tk : Tok}
  (B : Below A₀ base outer h₀) (F : Fr h₀ L s.heap m) (X : (hd.heap_1 w.params).In h₀) (T : Top p loose mean mg mb h₀) (hdp : d < 980) (hun : u < 9800)
  (hio : @LT.lt Nat _ iod io) (hx : x.length ≤ 100000) (hrest : ∀ p ∈ rest, p.1 ≠ iod) (hc : x.cps.toList.drop pos = [])
  (N : News h₀ L s.heap ((io, instObj 587 iod) :: (iod, ioD w.params kt x pos t2) :: rest))
  (hR : ∀ h' t t' k, Fr h₀ L h' m → News h₀ L h' ((io, instObj 587 iod) :: (iod, ioD w.params kt x pos t') :: rest) → Q (.str (Str.ofString "") t) { s with heap := h', toks := k })
  : wpAny (model prog w) (ar hdl d (fenv ns ig ic mo gl cs qn fo cdv bi L :: outer) gs u) (call (.ref 533) [.ref io, .int 1 tk]) Q E s := by
  have hl : ¬ pos < x.length := by
    have h := congrArg List.length hc
    simp [Str.length] at h ⊢
    omega
  have e := ch1_over (x := x) (pos := pos) (by omega)
  refine read1 B F X T hdp hun hio hx hrest N fun h' t t' k F' N' => ?_
  rw [if_neg hl] at N'
  rw [e]
  exact hR h' t t' k F' N'
end
end Mine

namespace Mine
section
variable {w : World} {A : Around} {s : Shared} {R : Result → Shared → Prop}
theorem io_new (X : (hd.heap_1 w.params).In s.heap) (hq : R (.ok (.ret (.ref (s.heap.objs.size + 1)))) { s with heap := (s.heap.push emptyDict).push (instObj 587 s.heap.objs.size) }) :
    codeAny (model prog w) A (.call (.builtin "object.__new__") ⟨[.ref 587], []⟩) R s := by
  obtain ⟨h, g, d, t, os⟩ := s
  have hC := X 587 _ (by k_is)
  have F := PySem.F.objNew
  have here : Looks (model prog w) h (Bind.madeHere "object.__new__" (.ref 587)) () := Looks.of_peek X (by kernel_rfl)
  have self : Looks (model prog w) h (isSubtype (.ref 587) (.ref 587)) true := looks_subIn X (by k_is)
  have top : Looks (model prog w) h (isSubtype (.ref 587) (.type "object")) true := looks_subIn X (by k_is)
  have typ : Looks (model prog w) h (isInstance (.ref 587) (.type "type")) true := looks_instIn X (by k_is)
  have chk : Looks (model prog w) h (checkBuiltinCall "object.__new__" ⟨[.ref 587], []⟩) () := Looks.of_peek X (by kernel_rfl)
  refine codeAny_call_builtin_code (Code.quiet_builtin _ F.quiet) (chk.here ?_)
  refine codeAny_builtin F.entry ?_
  unfold Builtin.«object.__new__»
  have fin : ∀ A', wpAny (model prog w) A' (do
      let d ← if typeHasDict (.ref 587) then some <$> alloc { cls := .type "dict", data := .dict #[] } else pure none
      ret (← newObj (.ref 587) .plain d)) (fun fin s' => match fin with | .done f => R (.ok f) s' | .again c' => c'.quiet = true ∧ codeAny (model prog w) A c' R s') (fun e s' => R (.error e) s') ⟨h, g, d, t, os⟩ := by
    intro A'
    show wpAny _ _ ((alloc emptyDict >>= fun x => pure (some x)) >>= _) _ _ _
    refine wpAny_bind (wpAny_bind (wpAny_alloc (wpAny_pure (wpAny_bind ?_))))
    show wpAny _ _ (newObjAsIs _ _ _) _ _ _
    unfold newObjAsIs classHasDel
    refine wpAny_bind (wpAny_alloc (wpAny_bind (wpAny_bind (wpAny_load (Heap.get?_push_of_some _ (Heap.get?_push_of_some _ hC)) (wpAny_pure ?_)))))
    refine wpAny_pure (wpAny_pure ?_)
    show R _ _
    rw [Heap.size_push]
    exact hq
  repeat (first | simp only [Bool.false_eq_true, if_false] | exact fin _ | lk)
  all_goals trace_state
end
section
variable {w : World} {A : Around} {E : Value → Shared → Prop} {s : Shared} {h₀ : Heap} {L : Addr} {m : Str → Option Value} {news : List (Addr × Obj)}
theorem io_new_w {Q : Value → Shared → Prop} (F : Fr h₀ L s.heap m) (X : (hd.heap_1 w.params).In h₀) (N : News h₀ L s.heap news)
    (h : ∀ x dx h', Fr h₀ L h' m → News h₀ L h' ((x, instObj 587 dx) :: (dx, dictOf [] 0) :: news) → (∀ p ∈ news, p.1 < dx) → dx < x → Q (.ref x) { s with heap := h' }) :
    wpAny (model prog w) A (call (.builtin "object.__new__") [.ref 587]) Q E s := by
  refine wpAny_call (io_new (X.keeps F.keep) ?_)
  have := (N.push F emptyDict).push (F.push _) (instObj 587 s.heap.objs.size)
  rw [Heap.size_push] at this
  exact h _ s.heap.objs.size _ ((F.push _).push _) this (fun p hp => Heap.lt_size (N p hp).1) (Nat.lt_succ_self _)
end
end Mine
local macro_rules | `(tactic| walk_at "call builtin:object.__new__") => `(tactic| (k_here; k_dflt (refine' Mine.io_new_w ?k1 ?k2 ?k3 ?_; (case k1 => k_asm); (case k2 => k_asm); (case k3 => k_asm); k_whole); intro x' d' h' F' N' l1 l2; (try k_lt l1); (try k_lt2 l2); (try k_sweep)))
namespace Mine
section
variable {w : World} {A₀ : Around} {base h₀ : Heap} {outer : List Env} {L : Addr} {m mg mb : Str → Option Value} {loose : List Str} {mean : ExcName → Option Value} {s : Shared} {Q E : Value → Shared → Prop} {p : Program}
  {hdl : Option Value} {d u : Nat} {gs : Option (List Code)} {rest : List (Addr × Obj)} {ns : List (Str × NameKind)} {ig ic : Bool} {mo : List (Str × Const)} {gl bi : Addr} {cs : List (Str × Addr)} {qn : Str} {fo : Option Addr} {cdv : Value}
theorem news_drop2 {h₀ h : Heap} {L : Addr} {a b c d : Addr × Obj} {rest : List (Addr × Obj)} (N : News h₀ L h (a :: b :: c :: d :: rest)) : News h₀ L h (a :: b :: rest) := by
  intro q hq
  refine N q ?_
  rcases List.mem_cons.mp hq with rfl | hq
  · exact .head _
  · rcases List.mem_cons.mp hq with rfl | hq
    · exact .tail _ (.head _)
    · exact .tail _ (.tail _ (.tail _ (.tail _ hq)))
theorem io_make {x : Str} {tk : Tok}
  (B : Below A₀ base outer h₀) (F : Fr h₀ L s.heap m) (X : (hd.heap_1 w.params).In h₀) (T : Top p loose mean mg mb h₀) (hdp : d < 980) (hun : u < 9800)
  (hx : x.length ≤ 100000)
  (N : News h₀ L s.heap rest)
  (hQ : ∀ io iod h' kt t k, Fr h₀ L h' m → News h₀ L h' ((io, instObj 587 iod) :: (iod, ioD w.params kt x 0 t) :: rest) → AllLt iod rest → @LT.lt Nat _ iod io → Q (.ref io) { s with heap := h', toks := k })
  : wpAny (model prog w) (ar hdl d (fenv ns ig ic mo gl cs qn fo cdv bi L :: outer) gs u) (call (.ref 587) [.str x tk]) Q E s := by
  have XS := X.keeps F.keep
  have hC := XS 587 _ (by k_is)
  have typ : Looks (model prog w) s.heap (isInstance (.ref 587) (.type "type")) true := looks_instIn XS (by k_is)
  have cl : Looks (model prog w) s.heap (specialOf (.ref 587) "__call__") (some (.builtin "type.__call__")) := looks_specialIn XS (by k_is)
  have made : Looks (model prog w) s.heap (Bind.madeBy (.ref 587)) none := Looks.of_peek XS (by kernel_rfl)
  have mro : Looks (model prog w) s.heap (mroOf (.ref 587)) [.ref 587, .ref 110, .ref 83, .type "object"] := Looks.of_peek XS (by kernel_rfl)
  refine wpAny_call (codeAny_of_tree ?_)
  show wpAny _ _ (callAny (.ref 587) _) _ _ _
  refine nd_load hC ?_
  show wpAny _ _ (callAny.viaDunder (.ref 587) _) _ _ _
  unfold callAny.viaDunder
  refine wpAny_bind (cl.here ?_)
  dsimp only
  rw [tc_bind]
  refine wpAny_bind (wpAny_pure (wpAny_bind (wpAny_pure ?_)))
  refine wpAny_pure (a := Fin.again (.call (.builtin "type.__call__") ⟨[.ref 587, .str x tk], []⟩)) (And.intro rfl ?_)
  refine codeAny_call_builtin_at (Code.quiet_builtin _ (by decide +kernel)) entry_typeCall (check_slot tc_kind tc_split typ (tc_args _ _ _) ?_)
  unfold Builtin.«type.__call__»
  refine wpAny_bind (mro.here ?_)
  simp only [List.isEmpty_cons, Bool.false_eq_true, if_false]
  refine wpAny_bind (made.here ?_)
  dsimp only
  refine wpAny_bind ?_
  walk1
  refine wpAny_bind (wpAny_holding ?_)
  k_steps
  rename Fr h₀ L _ m => kF
  rename News h₀ L _ _ => kN
  rename (hd.heap_1 w.params).In h₀ => _X2
  have XS2 := X.keeps kF.keep
  have I := InstAt.of_news (C := 587) kN (List.Mem.head _) (List.Mem.tail _ (List.Mem.head _))
  have sub : Looks (model prog w) _ (isSubtype (.ref 587) (.ref 587)) true := looks_subIn XS2 (by k_is)
  refine wpAny_bind ?_
  unfold isInstance
  refine wpAny_bind (I.type.here (sub.here ?_))
  simp only [Bool.not_true, Bool.false_eq_true, if_false]
  refine wpAny_bind (wpAny_holding (special_fn XS2 I (by k_is) (by k_is) ?_))
  k_steps
  rw [if_neg (by decide)]
  refine wpAny_pure ?_
  rename News h₀ L _ _ => kN2
  rename Fr h₀ L _ m => kF2
  rename _ ∧ _ ∧ _ => hl
  exact hQ _ _ _ ⟨_, _, _, _, _⟩ _ _ kF2 (news_drop2 kN2) hl.2.2 (by assumption)
end
end Mine

namespace Mine
theorem allLt_ne {d : Addr} : ∀ {l : List (Addr × Obj)}, AllLt d l → ∀ p ∈ l, p.1 ≠ d
  | [], _, _, hp => nomatch hp
  | _ :: _, h, _, .head _ => Nat.ne_of_lt h.1
  | _ :: _, h, _, .tail _ hp => allLt_ne h.2 _ hp
end Mine
local macro_rules | `(tactic| k_all) => `(tactic| exact Mine.allLt_ne (by with_reducible assumption))
local macro_rules | `(tactic| walk_at "call type:collections.deque") => `(tactic| (k_here; k_dflt (refine' Mine.dq_new ?k1 ?k2 ?_; (case k1 => k_asm); (case k2 => k_asm); k_whole); intro q' h' F' N' l1; (try k_lt l1); (try k_sweep)))
local macro_rules | `(tactic| walk_at "call ref") => `(tactic| (k_here; (with_reducible show wpAny _ _ (call (Value.ref 587) [Value.str _ _]) _ _ _); k_dflt (refine' Mine.io_make ?k1 ?k2 ?k3 ?k4 ?k5 ?k6 ?k7 ?k8 ?_; (case k1 => k_asm); (case k2 => k_asm); (case k3 => k_asm); (case k4 => k_asm); (case k5 => (first | k_room | k_units)); (case k6 => (first | k_room | k_units)); (case k7 => assumption); (case k8 => k_asm); k_whole); intro io' iod' h' kt' t' k' F' N' l1 l2; (try simp only [AllLt, and_true] at l1); (try k_sweep)))
namespace Mine
section
variable {w : World} {A₀ : Around} {base h₀ : Heap} {outer : List Env} {L : Addr} {m mg mb : Str → Option Value} {loose : List Str} {mean : ExcName → Option Value} {s : Shared} {Q E : Value → Shared → Prop} {p : Program}
  {hdl : Option Value} {d u : Nat} {gs : Option (List Code)} {rest : List (Addr × Obj)} {ns : List (Str × NameKind)} {ig ic : Bool} {mo : List (Str × Const)} {gl bi : Addr} {cs : List (Str × Addr)} {qn : Str} {fo : Option Addr} {cdv : Value}
def WC (b : Bool) : Str := if b then Str.ofString "abcdfeghijklmnopqrstuvwxyzABCDEFGHIJKLMNOPQRSTUVWXYZ0123456789_ßàáâãäåæçèéêëìíîïðñòóôõöøùúûüýþÿÀÁÂÃÄÅÆÇÈÉÊËÌÍÎÏÐÑÒÓÔÕÖØÙÚÛÜÝÞ" else Str.ofString "abcdfeghijklmnopqrstuvwxyzABCDEFGHIJKLMNOPQRSTUVWXYZ0123456789_"
def EV (b : Bool) (v : Value) : Prop := if b then v = .none else ∃ t, v = .str (Str.ofString "") t
theorem ctor_ord {h : Heap} {a b c d e f : Addr × Obj} {rest : List (Addr × Obj)} (N : News h₀ L h (f :: c :: a :: b :: d :: e :: rest)) : News h₀ L h (a :: b :: c :: d :: e :: f :: rest) := by
  intro q hq
  refine N q ?_
  simp only [List.mem_cons] at hq ⊢
  rcases hq with h | h | h | h | h | h | h <;> simp [h]
theorem ctor {x : Str} {b : Bool} {tk : Tok}
  (B : Below A₀ base outer h₀) (F : Fr h₀ L s.heap m) (X : (hd.heap_1 w.params).In h₀) (T : Top p loose mean mg mb h₀) (hdp : d < 900) (hun : u < 9000)
  (hx : x.length ≤ 100000)
  (N : News h₀ L s.heap rest)
  (hQ : ∀ lx dx io iod pb fs h' kt T ev t1 ts tl tt k, Fr h₀ L h' m → EV b ev → @LT.lt Nat _ dx lx → @LT.lt Nat _ lx iod → @LT.lt Nat _ iod io → @LT.lt Nat _ io pb → @LT.lt Nat _ pb fs → AllLt dx rest → AllLt iod rest → AllLt pb rest → AllLt fs rest → 
    News h₀ L h' ((io, instObj 587 iod) :: (iod, ioD w.params kt x 0 t1) :: (pb, dqO [] 0) :: (lx, instObj 722 dx) ::
      (dx, lexD w.params T b false ev (Str.ofString "#") (WC b) pb fs io .none (.str (Str.ofString " ") ts) 1 tl (Str.ofString "") tt) :: (fs, dqO [] 0) :: rest) → Q (.ref lx) { s with heap := h', toks := k })
  : wpAny (model prog w) (ar hdl d (fenv ns ig ic mo gl cs qn fo cdv bi L :: outer) gs u) (call (.ref 722) [.str x tk] [(Str.ofString "posix", .bool b)]) Q E s := by
  k_steps
  all_goals (
    rename News h₀ L _ _ => kN2
    rename Fr h₀ L _ m => kF2
    rename ∀ p, p ∈ rest → _ => hl0
    replace hl0 := allLt_of hl0
    rename _ ∧ _ ∧ _ ∧ _ ∧ _ ∧ AllLt _ rest => hl1
    rename _ ∧ _ ∧ _ ∧ _ ∧ AllLt _ rest => hl2
    rename _ ∧ _ ∧ AllLt _ rest => hl3)
  · rename b = true => hb
    subst hb
    refine hQ _ _ _ _ _ _ _ _ ⟨_, _, _, _, _, _, _, _, _, _, _, _, _, _, _, _, _, _, _, _, _, _, _, _, _, _, _⟩ _ _ _ _ _ _ kF2 ?e1 ?e2 ?e3 ?e4 ?e5 ?e6 ?e7 ?e8 ?e9 ?e10 (ctor_ord kN2)
    case e1 => exact rfl
    all_goals first | assumption | exact hl1.1 | exact hl1.2.1 | exact hl2.1 | exact hl3.1 | exact hl3.2.2 | exact hl2.2.2.2.2 | exact hl1.2.2.2.2.2 
  · first | (rename b = false => hb; subst hb) | (rename ¬ b = true => hb; rw [Bool.not_eq_true] at hb; subst hb) | (rename ¬ (b = true) => hb; trace_state)
    refine hQ _ _ _ _ _ _ _ _ ⟨_, _, _, _, _, _, _, _, _, _, _, _, _, _, _, _, _, _, _, _, _, _, _, _, _, _, _⟩ _ _ _ _ _ _ kF2 ?g1 ?g2 ?g3 ?g4 ?g5 ?g6 ?g7 ?g8 ?g9 ?g10 (ctor_ord kN2)
    case g1 => exact ⟨_, rfl⟩
    all_goals first | assumption | exact hl1.1 | exact hl1.2.1 | exact hl2.1 | exact hl3.1 | exact hl3.2.2 | exact hl2.2.2.2.2 | exact hl1.2.2.2.2.2 
end
end Mine

namespace Mine
/-! the plain reading of read_token for texts without quotes and backslashes, no punctuation -/
inductive LSt where | fin | white | word
deriving DecidableEq
def wsS : Str := Str.ofString " \t\x0d\n"
def isWs (c : Nat) : Bool := (Str.ofString " \t\x0d\n").cps.toList.contains c
def isCm (c : Nat) : Bool := (Str.ofString "#").cps.toList.contains c
def Plain (c : Nat) : Prop := (Str.ofString "'\"").cps.toList.contains c = false ∧ (Str.ofString "\\").cps.toList.contains c = false
def dropLine : List Nat → List Nat
  | [] => []
  | c :: r => if c == 10 then r else dropLine r
theorem dropLine_le : ∀ l : List Nat, (dropLine l).length ≤ l.length
  | [] => Nat.le_refl _
  | c :: r => by
    unfold dropLine
    split
    · simp
    · have := dropLine_le r; simp; omega
theorem dropLine_at : ∀ (l : List Nat) (k : Nat), l[k]? = some 10 → (∀ j : Nat, j < k → l[j]? ≠ some 10) → dropLine l = l.drop (k + 1)
  | [], k, h, _ => by simp at h
  | c :: r, 0, h, _ => by
    have : c = 10 := by simpa using h
    subst this
    simp [dropLine]
  | c :: r, k + 1, h, hn => by
    have hc : (c == 10) = false := by
      have := hn 0 (by omega)
      simpa using this
    unfold dropLine
    rw [hc]
    simp only [Bool.false_eq_true, if_false]
    rw [dropLine_at r k (by simpa using h) (fun j hj => by have := hn (j + 1) (by omega); simpa using this)]
    simp
theorem dropLine_none : ∀ (l : List Nat), (∀ j : Nat, l[j]? ≠ some 10) → dropLine l = []
  | [], _ => rfl
  | c :: r, hn => by
    have hc : (c == 10) = false := by
      have := hn 0
      simpa using this
    unfold dropLine
    rw [hc]
    simp only [Bool.false_eq_true, if_false]
    exact dropLine_none r (fun j => by have := hn (j + 1); simpa using this)
structure RtR where
  tok : List Nat
  st : LSt
  rem : List Nat
  ln : Int
  over : Option Nat
def rt (b : Bool) (W : Nat → Bool) : LSt → List Nat → List Nat → Int → RtR
  | .fin, _, rem, ln => ⟨[], .fin, rem, ln, none⟩
  | .white, tok, [], ln => ⟨tok, .fin, [], ln, none⟩
  | .white, tok, c :: r, ln =>
    if isWs c then rt b W .white tok r (if c == 10 then ln + 1 else ln)
    else if isCm c then rt b W .white tok (dropLine r) (ln + 1)
    else if W c then rt b W .word [c] r ln
    else ⟨[c], .white, r, ln, none⟩
  | .word, tok, [], ln => ⟨tok, .fin, [], ln, none⟩
  | .word, tok, c :: r, ln =>
    if isWs c then ⟨tok, .white, r, if c == 10 then ln + 1 else ln, none⟩
    else if isCm c then (if b then ⟨tok, .white, dropLine r, ln + 1, none⟩ else rt b W .word tok (dropLine r) (ln + 1))
    else if W c then rt b W .word (tok ++ [c]) r ln
    else ⟨tok, .white, r, ln, some c⟩
termination_by _ _ rem _ => rem.length
decreasing_by
  all_goals simp_wf
  all_goals first | omega | (have := dropLine_le r; omega)
def SV : LSt → Value → Prop
  | .fin, v => v = .none
  | .white, v => ∃ t, v = .str (Str.ofString " ") t
  | .word, v => ∃ t, v = .str (Str.ofString "a") t
def S (l : List Nat) : Str := ⟨l.toArray⟩
theorem S_nil : Str.ofString "" = S [] := by decide +kernel
structure LS where
  sv : Value
  ln : Int
  tl : Tok
  tok : Str
  tt : Tok
  pos : Nat
  tp : Tok
  pbs : List Value
  pn : Int
def OV : Option Nat → List Value → List Value → Prop
  | none, a, b => a = b
  | some c, a, b => ∃ t, a = .str ⟨#[c]⟩ t :: b
def RV (b : Bool) (tok : List Nat) (v : Value) : Prop := if b && tok.isEmpty then v = .none else ∃ t, v = .str (S tok) t
theorem drop_next {l : List Nat} {p c : Nat} {r : List Nat} (h : l.drop p = c :: r) : l.drop (p + 1) = r ∧ p + 1 ≤ l.length := by
  have h1 : l.drop (p + 1) = (l.drop p).drop 1 := by rw [List.drop_drop]
  have h2 := congrArg List.length h
  simp at h2
  refine ⟨by rw [h1, h]; rfl, by omega⟩
theorem dropLine_sub : ∀ (l : List Nat), ∀ c ∈ dropLine l, c ∈ l
  | [], _, h => h
  | a :: r, c, h => by
    unfold dropLine at h
    split at h
    · exact .tail _ h
    · exact .tail _ (dropLine_sub r c h)
end Mine

namespace Mine
/-! _law_without_comments, plain -/
/-- cf b k l: what is left of l, k: within a comment -/
def cf (b : Bool) : Bool → List Nat → List Nat
  | k, [] => if k && !b then [] else [10]
  | k, c :: r =>
    if c == 10 then (if k && !b then cf b false r else 10 :: cf b false r)
    else if k then cf b true r
    else if c == 35 then cf b true r
    else c :: cf b false r
def lnOut (b : Bool) (y : List Nat) : List Nat := y.takeWhile (· != 35) ++ (if b || !y.contains 35 then [10] else [])
theorem cf_com (b : Bool) : ∀ (y r : List Nat), 10 ∉ y → cf b true (y ++ 10 :: r) = (if b then [10] else []) ++ cf b false r
  | [], r, _ => by cases b <;> simp [cf]
  | c :: y, r, h => by
    have hc : (c == 10) = false := by simp at h ⊢; exact fun e => h.1 e.symm
    have ih := cf_com b y r (fun hm => h (.tail _ hm))
    rw [List.cons_append, cf, hc]
    simpa using ih
theorem cf_com0 (b : Bool) : ∀ (y : List Nat), 10 ∉ y → cf b true y = if b then [10] else []
  | [], _ => by cases b <;> simp [cf]
  | c :: y, h => by
    have hc : (c == 10) = false := by simp at h ⊢; exact fun e => h.1 e.symm
    have ih := cf_com0 b y (fun hm => h (.tail _ hm))
    rw [cf, hc]
    simpa using ih
theorem lnOut_cons {b : Bool} {c : Nat} {y : List Nat} (h : (c == 35) = false) : lnOut b (c :: y) = c :: lnOut b y := by
  unfold lnOut
  have h1 : (c != 35) = true := by simp [bne, h]
  have h2 : (c :: y).contains 35 = y.contains 35 := by
    rw [List.contains_cons]
    have : ((35 : Nat) == c) = false := by simp at h ⊢; exact fun e => h e.symm
    rw [this, Bool.false_or]
  rw [List.takeWhile_cons, if_pos h1, h2]
  rfl
theorem lnOut_com {b : Bool} {y : List Nat} : lnOut b (35 :: y) = if b then [10] else [] := by
  cases b <;> simp [lnOut]
theorem cf_line (b : Bool) : ∀ (y r : List Nat), 10 ∉ y → cf b false (y ++ 10 :: r) = lnOut b y ++ cf b false r
  | [], r, _ => by simp [cf, lnOut]
  | c :: y, r, h => by
    have hc : (c == 10) = false := by simp at h ⊢; exact fun e => h.1 e.symm
    have hy : 10 ∉ y := fun hm => h (.tail _ hm)
    rw [List.cons_append, cf, hc]
    cases h35 : (c == 35) with
    | true =>
      have : c = 35 := by simpa using h35
      subst this
      simp only [Bool.false_eq_true, if_false, if_true]
      rw [cf_com b y r hy, lnOut_com]
    | false =>
      simp only [Bool.false_eq_true, if_false]
      rw [cf_line b y r hy, lnOut_cons h35]
      rfl
theorem cf_line0 (b : Bool) : ∀ (y : List Nat), 10 ∉ y → cf b false y = lnOut b y
  | [], _ => by simp [cf, lnOut]
  | c :: y, h => by
    have hc : (c == 10) = false := by simp at h ⊢; exact fun e => h.1 e.symm
    have hy : 10 ∉ y := fun hm => h (.tail _ hm)
    rw [cf, hc]
    cases h35 : (c == 35) with
    | true =>
      have : c = 35 := by simpa using h35
      subst this
      simp only [Bool.false_eq_true, if_false, if_true]
      rw [cf_com0 b y hy, lnOut_com]
    | false =>
      simp only [Bool.false_eq_true, if_false]
      rw [cf_line0 b y hy, lnOut_cons h35]
def lnsOut (b : Bool) (ws : List Str) : List Nat := ws.flatMap fun y => lnOut b y.cps.toList
theorem cf_join (b : Bool) : ∀ (ws : List Str), ws ≠ [] → (∀ y ∈ ws, 10 ∉ y.cps.toList) → cf b false (Str.join ⟨#[10]⟩ ws).cps.toList = lnsOut b ws
  | [], h, _ => absurd rfl h
  | [y], _, h => by
    show cf b false y.cps.toList = _
    rw [cf_line0 b _ (h y (.head _))]
    simp [lnsOut]
  | y :: z :: r, _, h => by
    have ih := cf_join b (z :: r) (by simp) (fun q hq => h q (.tail _ hq))
    have e : (Str.join ⟨#[10]⟩ (y :: z :: r)).cps.toList = y.cps.toList ++ 10 :: (Str.join ⟨#[10]⟩ (z :: r)).cps.toList := by
      show (y ++ (⟨#[10]⟩ : Str) ++ Str.join ⟨#[10]⟩ (z :: r)).cps.toList = _
      rw [Str.cps_append, Str.cps_append]
      simp
    rw [e, cf_line b _ _ (h y (.head _)), ih]
    rfl
theorem split_ne (x y : Str) : Txt.split x y ≠ [] := by
  unfold Txt.split
  split
  · simp
  · split
    · simp
    · intro h
      have := length_partsBetween x (Builtin.Str.occurrences x y 0 x.length (x.length + 1)) y.length
      rw [h] at this
      simp at this
theorem cf_split (b : Bool) (x : Str) : lnsOut b (Txt.split x ⟨#[10]⟩) = cf b false x.cps.toList := by
  rw [← cf_join b _ (split_ne x _) (StrLaws.split_free x 10), StrLaws.join_split]
theorem cf_len (b : Bool) : ∀ (k : Bool) (l : List Nat), (cf b k l).length ≤ l.length + 1
  | k, [] => by unfold cf; split <;> simp
  | k, c :: r => by
    have h1 := cf_len b false r
    have h2 := cf_len b true r
    unfold cf
    split
    · split <;> simp <;> omega
    · split
      · simp; omega
      · split <;> simp <;> omega
theorem cf_all (b : Bool) {P : Nat → Prop} (h10 : P 10) : ∀ (k : Bool) (l : List Nat), (∀ c ∈ l, P c) → ∀ c ∈ cf b k l, P c
  | k, [], _ => by
    unfold cf; split <;> simp [h10]
  | k, c :: r, h => by
    have h1 := cf_all b h10 false r (fun c hc => h c (.tail _ hc))
    have h2 := cf_all b h10 true r (fun c hc => h c (.tail _ hc))
    unfold cf
    split
    · split
      · exact h1
      · intro a ha
        rcases List.mem_cons.mp ha with rfl | ha
        · exact h10
        · exact h1 a ha
    · split
      · exact h2
      · split
        · exact h2
        · intro a ha
          rcases List.mem_cons.mp ha with rfl | ha
          · exact h _ (.head _)
          · exact h1 a ha
open Builtin Builtin.Str in
theorem part_one (x : Str) : (Txt.partition x ⟨#[35]⟩).1.cps.toList = x.cps.toList.takeWhile (· != 35) := by
  unfold Txt.partition
  rcases StrLaws.occ_head x ⟨#[35]⟩ 1 (Nat.le_refl 1) with ⟨e, hn⟩ | ⟨i, r, e, hi, hn⟩
  · rw [e]
    have hf := StrLaws.part_free x 35 0 x.length (Nat.le_refl _) (fun k _ _ => hn k)
    rw [StrLaws.sub_whole] at hf
    show x.cps.toList = _
    have h1 := List.takeWhile_append_of_pos (p := fun c => c != 35) (l₁ := x.cps.toList) (l₂ := []) (fun a ha => by simp only [bne_iff_ne, ne_eq]; rintro rfl; exact hf ha)
    simpa using h1.symm
  · rw [e]
    have hf := StrLaws.part_free x 35 0 i (by have := hi.1; simp [Str.length] at this ⊢; omega) (fun k _ h => hn k h)
    have h35 := (StrLaws.subAt_one x 35 i).mp hi
    show (strSub x 0 i).cps.toList = _
    rw [StrLaws.strSub_toList] at hf ⊢
    simp only [List.drop_zero, Nat.sub_zero] at hf ⊢
    have e2 : x.cps.toList = x.cps.toList.take i ++ 35 :: x.cps.toList.drop (i + 1) := by
      have hlt : i < x.cps.toList.length := (List.getElem?_eq_some_iff.mp h35).1
      have h3 : x.cps.toList[i] = 35 := (List.getElem?_eq_some_iff.mp h35).2
      rw [← h3, ← List.drop_eq_getElem_cons hlt, List.take_append_drop]
    generalize hA : x.cps.toList.take i = A at hf e2
    rw [e2]
    rw [List.takeWhile_append_of_pos (fun a ha => by simp only [bne_iff_ne, ne_eq]; rintro rfl; exact hf ha)]
    simp
end Mine

namespace Mine
/-! the row of tokens: given, over -/
structure GF where
  gi : List (List Nat)
  ov : List Nat
  bf : Bool
def gstep (W : Nat → Bool) (g : GF) (c : Nat) : GF :=
  if W c then (if g.bf then ⟨g.gi.dropLast ++ [g.gi.getLast?.getD [] ++ [c]], g.ov, true⟩ else ⟨g.gi ++ [[c]], g.ov, true⟩)
  else if isWs c then ⟨g.gi, g.ov, false⟩
  else if g.bf then ⟨g.gi, g.ov ++ [c], false⟩ else ⟨g.gi ++ [[c]], g.ov, false⟩
def gfold (W : Nat → Bool) (g : GF) (l : List Nat) : GF := l.foldl (gstep W) g
def GF.out (g : GF) : List (List Nat) × List Nat := (g.gi, g.ov)
theorem ws10 : isWs 10 = true := by decide +kernel
theorem cm_iff (c : Nat) : isCm c = (c == 35) := by
  have : (Str.ofString "#").cps.toList = [35] := by decide +kernel
  unfold isCm
  rw [this, List.contains_cons, List.contains_nil, Bool.or_false]
theorem ws35 {c : Nat} (h : isWs c = true) : (c == 35) = false := by
  have : (Str.ofString " \t\x0d\n").cps.toList = [32, 9, 13, 10] := by decide +kernel
  unfold isWs at h
  rw [this] at h
  simp at h ⊢
  omega
structure WOk (W : Nat → Bool) : Prop where
  ws : ∀ c, isWs c = true → W c = false
section
variable {b : Bool} {W : Nat → Bool} (hW : WOk W)
include hW
theorem gstep_ws {g : GF} {c : Nat} (h : isWs c = true) : gstep W g c = ⟨g.gi, g.ov, false⟩ := by
  unfold gstep
  rw [hW.ws c h, h]; rfl
theorem gstep10 {g : GF} : gstep W g 10 = ⟨g.gi, g.ov, false⟩ := gstep_ws hW ws10
/-- out of a fold depends on gi, ov alone where the state starts so -/
theorem cf_true (g : GF) : ∀ l : List Nat, (gfold W g (cf b true l)).out = (gfold W (if b then ⟨g.gi, g.ov, false⟩ else g) (cf b false (dropLine l))).out
  | [] => by
    cases b with
    | true => simp [cf, gfold, dropLine, gstep10 hW]
    | false => simp [cf, gfold, dropLine, gstep10 hW, GF.out]
  | c :: r => by
    rw [cf, dropLine]
    cases hc : (c == 10) with
    | true =>
      cases b with
      | true => simp [gfold, gstep10 hW]
      | false => simp [gfold]
    | false =>
      simp only [Bool.false_eq_true, if_false, if_true]
      exact cf_true g r
structure RtOk (b : Bool) (W : Nat → Bool) (gi : List (List Nat)) (ov : List Nat) (g : GF) (rem : List Nat) (r : RtR) : Prop where
  ne : r.tok ≠ []
  le : r.rem.length ≤ rem.length
  st : r.st = .white ∨ (r.st = .fin ∧ r.rem = [])
  out : (gfold W g (cf b false rem)).out = (gfold W ⟨gi ++ [r.tok], ov ++ r.over.toList, false⟩ (cf b false r.rem)).out
theorem rt_word (gi : List (List Nat)) (ov : List Nat) : ∀ (n : Nat) (rem : List Nat) (tok : List Nat) (ln : Int), rem.length ≤ n → tok ≠ [] → RtOk b W gi ov ⟨gi ++ [tok], ov, true⟩ rem (rt b W .word tok rem ln)
  | n, [], tok, ln, _, ht => by
    rw [rt]
    refine ⟨ht, Nat.le_refl _, .inr ⟨rfl, rfl⟩, ?_⟩
    simp [cf, gfold, gstep10 hW, GF.out]
  | 0, c :: r, tok, ln, hn, ht => by simp at hn
  | n + 1, c :: r, tok, ln, hn, ht => by
    have hn' : r.length ≤ n := by simpa using hn
    have hd := dropLine_le r
    rw [rt]
    cases hws : isWs c with
    | true =>
      simp only [if_true]
      refine ⟨ht, by simp, .inl rfl, ?_⟩
      have e : cf b false (c :: r) = c :: cf b false r := by
        rw [cf, ws35 hws]
        cases hc : (c == 10) with
        | true => rw [beq_iff_eq.mp hc]; simp
        | false => simp
      rw [e]
      show (gfold W (gstep W _ c) (cf b false r)).out = _
      rw [gstep_ws hW hws]
      simp
    | false =>
      have h10 : (c == 10) = false := by
        cases hc : (c == 10) with
        | false => rfl
        | true => rw [beq_iff_eq.mp hc, ws10] at hws; cases hws
      cases hcm : isCm c with
      | true =>
        have h35 : (c == 35) = true := by rw [← cm_iff]; exact hcm
        have e : cf b false (c :: r) = cf b true r := by rw [cf, h10, h35]; simp
        have ih := rt_word gi ov n (dropLine r) tok (ln + 1) (by omega) ht
        cases b with
        | true =>
          simp only [if_true, if_false, Bool.false_eq_true]
          refine ⟨ht, by simp; omega, .inl rfl, ?_⟩
          rw [e, cf_true hW]
          simp
        | false =>
          simp only [if_true, if_false, Bool.false_eq_true]
          refine ⟨ih.ne, by have := ih.le; simp; omega, ih.st, ?_⟩
          rw [e, cf_true hW]
          exact ih.out
      | false =>
        have h35 : (c == 35) = false := by rw [← cm_iff]; exact hcm
        have e : cf b false (c :: r) = c :: cf b false r := by rw [cf, h10, h35]; simp
        cases hw : W c with
        | true =>
          simp only [if_true, if_false, Bool.false_eq_true]
          have ih := rt_word gi ov n r (tok ++ [c]) ln hn' (by simp)
          refine ⟨ih.ne, by have := ih.le; simp; omega, ih.st, ?_⟩
          rw [e]
          show (gfold W (gstep W _ c) (cf b false r)).out = _
          have e2 : gstep W ⟨gi ++ [tok], ov, true⟩ c = ⟨gi ++ [tok ++ [c]], ov, true⟩ := by
            unfold gstep
            simp [hw]
          rw [e2]
          exact ih.out
        | false =>
          simp only [if_false, Bool.false_eq_true]
          refine ⟨ht, by simp, .inl rfl, ?_⟩
          rw [e]
          show (gfold W (gstep W _ c) (cf b false r)).out = _
          have e2 : gstep W ⟨gi ++ [tok], ov, true⟩ c = ⟨gi ++ [tok], ov ++ [c], false⟩ := by
            unfold gstep
            simp [hw, hws]
          rw [e2]
          simp
structure RwOk (b : Bool) (W : Nat → Bool) (gi : List (List Nat)) (ov : List Nat) (rem : List Nat) (r : RtR) : Prop where
  lt : r.tok ≠ [] → r.rem.length < rem.length
  st : r.st = .white ∨ (r.st = .fin ∧ r.rem = [])
  nil : r.tok = [] → r.st = .fin ∧ r.rem = [] ∧ r.over = none
  out : (gfold W ⟨gi, ov, false⟩ (cf b false rem)).out = (gfold W ⟨if r.tok.isEmpty then gi else gi ++ [r.tok], ov ++ r.over.toList, false⟩ (cf b false r.rem)).out
theorem rt_white (gi : List (List Nat)) (ov : List Nat) : ∀ (n : Nat) (rem : List Nat) (ln : Int), rem.length ≤ n → RwOk b W gi ov rem (rt b W .white [] rem ln)
  | n, [], ln, _ => by
    rw [rt]
    exact ⟨fun h => absurd rfl h, .inr ⟨rfl, rfl⟩, fun _ => ⟨rfl, rfl, rfl⟩, by simp⟩
  | 0, c :: r, ln, hn => by simp at hn
  | n + 1, c :: r, ln, hn => by
    have hn' : r.length ≤ n := by simpa using hn
    have hd := dropLine_le r
    rw [rt]
    cases hws : isWs c with
    | true =>
      simp only [if_true]
      have e : cf b false (c :: r) = c :: cf b false r := by
        rw [cf, ws35 hws]
        cases hc : (c == 10) with
        | true => rw [beq_iff_eq.mp hc]; simp
        | false => simp
      have ih := rt_white gi ov n r (if c == 10 then ln + 1 else ln) hn'
      refine ⟨fun h => by have := ih.lt h; simp only [List.length_cons]; omega, ih.st, ih.nil, ?_⟩
      rw [e]
      show (gfold W (gstep W _ c) (cf b false r)).out = _
      rw [gstep_ws hW hws]
      exact ih.out
    | false =>
      have h10 : (c == 10) = false := by
        cases hc : (c == 10) with
        | false => rfl
        | true => rw [beq_iff_eq.mp hc, ws10] at hws; cases hws
      cases hcm : isCm c with
      | true =>
        have h35 : (c == 35) = true := by rw [← cm_iff]; exact hcm
        have e : cf b false (c :: r) = cf b true r := by rw [cf, h10, h35]; simp
        simp only [if_true, if_false, Bool.false_eq_true]
        have ih := rt_white gi ov n (dropLine r) (ln + 1) (by omega)
        refine ⟨fun h => by have := ih.lt h; simp only [List.length_cons]; omega, ih.st, ih.nil, ?_⟩
        rw [e, cf_true hW]
        have e2 : (if b = true then (⟨gi, ov, false⟩ : GF) else ⟨gi, ov, false⟩) = ⟨gi, ov, false⟩ := by cases b <;> rfl
        rw [e2]
        exact ih.out
      | false =>
        have h35 : (c == 35) = false := by rw [← cm_iff]; exact hcm
        have e : cf b false (c :: r) = c :: cf b false r := by rw [cf, h10, h35]; simp
        cases hw : W c with
        | true =>
          simp only [if_true, if_false, Bool.false_eq_true]
          have ih := rt_word (b := b) hW gi ov n r [c] ln hn' (by simp)
          have hne : (rt b W .word [c] r ln).tok.isEmpty = false := by
            have := ih.ne
            cases h : (rt b W .word [c] r ln).tok with
            | nil => exact absurd h this
            | cons => rfl
          refine ⟨fun _ => by have := ih.le; simp; omega, ih.st, fun h => absurd h ih.ne, ?_⟩
          rw [e]
          show (gfold W (gstep W _ c) (cf b false r)).out = _
          have e2 : gstep W ⟨gi, ov, false⟩ c = ⟨gi ++ [[c]], ov, true⟩ := by
            unfold gstep
            simp [hw]
          rw [e2, hne]
          exact ih.out
        | false =>
          simp only [if_false, Bool.false_eq_true]
          refine ⟨fun _ => by simp, .inl rfl, fun h => by simp at h, ?_⟩
          rw [e]
          show (gfold W (gstep W _ c) (cf b false r)).out = _
          have e2 : gstep W ⟨gi, ov, false⟩ c = ⟨gi ++ [[c]], ov, false⟩ := by
            unfold gstep
            simp [hw, hws]
          rw [e2]
          simp
end
structure RS where
  st : LSt
  rem : List Nat
  ln : Int
  toks : List (List Nat)
  ovs : List Nat
def rstep (b : Bool) (W : Nat → Bool) (q : RS) : RS :=
  ⟨(rt b W q.st [] q.rem q.ln).st, (rt b W q.st [] q.rem q.ln).rem, (rt b W q.st [] q.rem q.ln).ln, q.toks ++ [(rt b W q.st [] q.rem q.ln).tok], q.ovs ++ (rt b W q.st [] q.rem q.ln).over.toList⟩
def riter (b : Bool) (W : Nat → Bool) : Nat → RS → RS
  | 0, q => q
  | n + 1, q => riter b W n (rstep b W q)
theorem riter_succ (b : Bool) (W : Nat → Bool) : ∀ (n : Nat) (q : RS), riter b W (n + 1) q = rstep b W (riter b W n q)
  | 0, _ => rfl
  | n + 1, q => by
    show riter b W (n + 1) (rstep b W q) = _
    rw [riter_succ b W n]
    rfl
theorem riter_fin (b : Bool) (W : Nat → Bool) : ∀ (n : Nat) (q : RS), q.st = .fin → q.rem = [] → riter b W n q = ⟨.fin, [], q.ln, q.toks ++ List.replicate n [], q.ovs⟩
  | 0, ⟨_, _, _, _, _⟩, h1, h2 => by dsimp only at h1 h2; subst h1 h2; simp [riter]
  | n + 1, ⟨_, _, ln, ts, os⟩, h1, h2 => by
    dsimp only at h1 h2
    subst h1 h2
    have e : rstep b W ⟨.fin, [], ln, ts, os⟩ = ⟨.fin, [], ln, ts ++ [[]], os⟩ := by
      unfold rstep
      simp [rt]
    show riter b W n (rstep b W _) = _
    rw [e, riter_fin b W n _ rfl rfl]
    simp [List.replicate_succ]
theorem riter_all {b : Bool} {W : Nat → Bool} (hW : WOk W) : ∀ (n : Nat) (q : RS) (gi : List (List Nat)) (ov : List Nat), q.st = .white → q.rem.length + 1 ≤ n →
    ∃ G O, (∀ t ∈ G, t ≠ []) ∧ G.length ≤ n ∧ (riter b W n q).st = .fin ∧ (riter b W n q).rem = [] ∧ (riter b W n q).toks = q.toks ++ G ++ List.replicate (n - G.length) [] ∧ (riter b W n q).ovs = q.ovs ++ O ∧
      (gfold W ⟨gi, ov, false⟩ (cf b false q.rem)).out = (gi ++ G, ov ++ O)
  | 0, q, _, _, _, h => by omega
  | n + 1, ⟨st, rem, ln, ts, os⟩, gi, ov, hst, hn => by
    dsimp only at hst hn
    subst hst
    have w := rt_white (b := b) hW gi ov rem.length rem ln (Nat.le_refl _)
    show ∃ G O, _ ∧ _ ∧ (riter b W n (rstep b W _)).st = _ ∧ (riter b W n (rstep b W _)).rem = _ ∧ (riter b W n (rstep b W _)).toks = _ ∧ (riter b W n (rstep b W _)).ovs = _ ∧ _
    have hr : rstep b W ⟨.white, rem, ln, ts, os⟩ = ⟨(rt b W .white [] rem ln).st, (rt b W .white [] rem ln).rem, (rt b W .white [] rem ln).ln, ts ++ [(rt b W .white [] rem ln).tok], os ++ (rt b W .white [] rem ln).over.toList⟩ := rfl
    rw [hr]
    generalize rt b W .white [] rem ln = r at w
    by_cases ht : r.tok = []
    · obtain ⟨h1, h2, h3⟩ := w.nil ht
      refine ⟨[], [], by simp, by simp, ?_⟩
      rw [riter_fin b W n _ h1 h2]
      refine ⟨rfl, rfl, ?_, ?_, ?_⟩
      · simp [ht, List.replicate_succ]
      · simp [h3]
      · rw [w.out, h2, h3, ht]
        simp [cf, gfold, gstep10 hW, GF.out]
    · have hne : r.tok.isEmpty = false := by cases h : r.tok with
        | nil => exact absurd h ht
        | cons => rfl
      have hl := w.lt ht
      rcases w.st with h1 | ⟨h1, h2⟩
      · obtain ⟨G, O, g1, g2, g3, g4, g5, g6, g7⟩ := riter_all hW n ⟨r.st, r.rem, r.ln, ts ++ [r.tok], os ++ r.over.toList⟩ (gi ++ [r.tok]) (ov ++ r.over.toList) h1 (by dsimp only; omega)
        refine ⟨r.tok :: G, r.over.toList ++ O, ?_, by simp; omega, g3, g4, ?_, ?_, ?_⟩
        · intro t h
          rcases List.mem_cons.mp h with rfl | h
          · exact ht
          · exact g1 t h
        · rw [g5]; simp
        · rw [g6]; simp
        · dsimp only at g7
          rw [w.out, hne]
          simp only [Bool.false_eq_true, if_false]
          rw [g7]
          simp
      · refine ⟨[r.tok], r.over.toList, by simpa using ht, by simp, ?_⟩
        rw [riter_fin b W n _ h1 h2]
        refine ⟨rfl, rfl, ?_, rfl, ?_⟩
        · simp
        · rw [w.out, hne, h2]
          simp [cf, gfold, gstep10 hW, GF.out]
/-- before tells that given is not empty -/
theorem gfold_bf (W : Nat → Bool) : ∀ (l : List Nat) (g : GF), (g.bf = true → g.gi ≠ []) → (gfold W g l).bf = true → (gfold W g l).gi ≠ []
  | [], _, h => h
  | c :: r, g, h => by
    refine gfold_bf W r (gstep W g c) ?_
    unfold gstep
    split
    · split <;> simp
    · split
      · simp
      · split <;> simp
theorem gfold_snoc (W : Nat → Bool) (g : GF) (l : List Nat) (c : Nat) : gfold W g (l ++ [c]) = gstep W (gfold W g l) c := by
  unfold gfold
  rw [List.foldl_append]; rfl
end Mine

namespace Mine
section
variable {prog' : Program} {w : World} {A : Around} {E : Value → Shared → Prop} {s : Shared} {Q : Value → Shared → Prop} {c k : Nat} {t u : Tok} {y : Str} {b : Bool}
theorem ite_t {A B : Prop} (h : A) : if true = true then A else B := h
theorem ite_f {A B : Prop} (h : B) : if false = true then A else B := h
theorem in_ch (e : y.cps.toList.contains c = b) (h : Q (.bool b) s) : wpAny (model prog' w) A (compareOp .In (.str ⟨#[c]⟩ t) (.str y u)) Q E s := by
  refine P.in_str ?_
  rw [StrLaws.found_one]
  have : decide (c ∈ y.cps.toList) = y.cps.toList.contains c := by simp
  rw [this, e]; exact h
theorem notin_ch (e : y.cps.toList.contains c = b) (h : Q (.bool (!b)) s) : wpAny (model prog' w) A (compareOp .NotIn (.str ⟨#[c]⟩ t) (.str y u)) Q E s := by
  refine P.notIn_str ?_
  rw [StrLaws.found_one]
  have : decide (c ∈ y.cps.toList) = y.cps.toList.contains c := by simp
  rw [this, e]; exact h
theorem eq_ch (hy : y = ⟨#[k]⟩) (e : (c == k) = b) (h : Q (.bool b) s) : wpAny (model prog' w) A (compareOp .Eq (.str ⟨#[c]⟩ t) (.str y u)) Q E s := by
  refine P.eq_str ?_
  have : ((⟨#[c]⟩ : Str).cps.toList == y.cps.toList) = b := by
    subst hy
    rw [← e]
    simp
  rw [this]; exact h
theorem eq_nl (e : (c == 10) = b) (h : Q (.bool b) s) : wpAny (model prog' w) A (compareOp .Eq (.str ⟨#[c]⟩ t) (.str (Str.ofString "\n") u)) Q E s := eq_ch (k := 10) (by decide +kernel) e h
theorem truthy_ch {Q : Bool → Shared → Prop} (h : Q true { s with toks := s.toks + 1 + 1 }) : wpAny (model prog' w) A (truthy (.str ⟨#[c]⟩ t)) Q E s :=
  P.truthy_str (by show ¬ ((1 : Nat) : Int) ≥ 2 ^ 63; decide) (by exact h)
theorem in_lit_t {x y : Str} (e : (Builtin.Str.occurrences y x 0 y.length 1).isEmpty = false) (h : Q (.bool true) s) : wpAny (model prog' w) A (compareOp .In (.str x t) (.str y u)) Q E s :=
  P.in_str (by rw [e]; exact h)
theorem in_lit_f {x y : Str} (e : (Builtin.Str.occurrences y x 0 y.length 1).isEmpty = true) (h : Q (.bool false) s) : wpAny (model prog' w) A (compareOp .In (.str x t) (.str y u)) Q E s :=
  P.in_str (by rw [e]; exact h)
theorem add_S {l : List Nat} (hl : l.length ≤ 100000) (h : ∀ t' k, Q (.str (S (l ++ [c])) t') { s with toks := k }) : wpAny (model prog' w) A (inplaceOp .Add (.str (S l) t) (.str ⟨#[c]⟩ u)) Q E s := by
  refine PyProof.Rows.iadd_str (fun t' k => ?_) ?_
  · have e : S l ++ (⟨#[c]⟩ : Str) = S (l ++ [c]) := by
      show Str.append _ _ = _
      simp [Str.append, S]
    rw [e]; exact h t' k
  · simp only [S, Str.length, List.size_toArray, sizeLine]
    have : [c].length = 1 := rfl
    omega
theorem truthy_S {l : List Nat} {Q : Bool → Shared → Prop} (e : l.isEmpty = b) (hl : l.length ≤ 100000) (h : Q (!b) { s with toks := s.toks + 1 + 1 }) : wpAny (model prog' w) A (truthy (.str (S l) t)) Q E s := by
  refine P.truthy_str ?_ ?_
  · simp only [S, Str.length, List.size_toArray]; omega
  · subst e
    have : (((S l).length : Int) != 0) = !l.isEmpty := by
      simp only [S, Str.length, List.size_toArray]
      cases l with
      | nil => rfl
      | cons a r => simp; omega
    rw [this]; exact h
theorem eq_S {l : List Nat} (e : l.isEmpty = b) (h : Q (.bool b) s) : wpAny (model prog' w) A (compareOp .Eq (.str (S l) t) (.str (Str.ofString "") u)) Q E s := by
  refine P.eq_str ?_
  have : ((S l).cps.toList == (Str.ofString "").cps.toList) = b := by
    subst e
    rw [S_nil]
    cases l <;> simp [S]
  rw [this]; exact h
open Builtin Builtin.Str in
theorem gives_find4 (x y : Str) (i : Int) (t u v v' : Tok) : Gives («str.find» ⟨[.str x t, .str y u, .int i v, .int x.length v'], []⟩) (.int (Txt.find3 x y i)) := by
  have e : fromIndex x.length (x.length : Int) = x.length := by unfold fromIndex; rw [if_neg (by omega)]; omega
  show Gives (match occurrences x y (fromIndex x.length i) (min x.length (fromIndex x.length (x.length : Int))) 1 with | k :: _ => retInt k | [] => (do rule "str.find.not-found"; retInt (-1))) _
  rw [e, Nat.min_self]
  unfold Txt.find3
  cases occurrences x y (fromIndex x.length i) x.length 1 with
  | nil => exact .rule (.of_eq rfl)
  | cons k _ => exact .of_eq rfl
theorem args_find4 (a b c d : Value) : argsOk "str.find" ⟨[a, b, c, d], []⟩ := by
  unfold argsOk; rw [signature?_of (id := "str.find") (n := ['d', 'n', 'i', 'f']) (o := ['r', 't', 's']) (by kernel_rfl) F.owner_str]; kernel_rfl
theorem find4 {x : Str} {i : Int} {v v' : Tok} (h : ∀ t' k, Q (.int (Txt.find3 x y i) t') { s with toks := k }) : wpAny (model prog' w) A (call (.builtin "str.find") [.str x t, .str y u, .int i v, .int x.length v']) Q E s :=
  call_gives F.slot_str_find (typeIs_str _ _ _) F.entry_str_find (args_find4 _ _ _ _) (gives_find4 x y i t u v v') (h _ _)
end
end Mine

namespace Mine
theorem news_tl {h₀ h : Heap} {L : Addr} {a : Addr × Obj} {l : List (Addr × Obj)} (N : News h₀ L h (a :: l)) : News h₀ L h l := fun q hq => N q (.tail _ hq)
section
variable {prog' : Program} {w : World} {A : Around} {E : Value → Shared → Prop} {Q : Flow → Shared → Prop} {s : Shared} {env : Env} {h₀ : Heap} {L : Addr}
def WlAt {σ : Type} (h₀ : Heap) (L : Addr) (s : Shared) (Led : σ → List (Addr × Obj)) (ps : σ → List (Str × Value)) (stored : List Str) (m₀ : Str → Option Value) (P : σ → Prop) (s₂ : Shared) : Prop :=
  ∃ (c' : σ) (h' : Heap) (tk : Nat) (m' : Str → Option Value) (news' : List (Addr × Obj)), s₂ = { s with heap := h', toks := tk } ∧ Fr h₀ L h' m' ∧ News h₀ L h' news' ∧ (∀ p ∈ Led c', p ∈ news') ∧ (∀ p ∈ ps c', m' p.1 = some p.2) ∧ (∀ z, (∀ p ∈ ps c', z ≠ p.1) → stored.contains z = false → m' z = m₀ z) ∧ P c'
def WlPost {σ : Type} (h₀ : Heap) (L : Addr) (s : Shared) (Led : σ → List (Addr × Obj)) (ps : σ → List (Str × Value)) (stored : List Str) (m₀ : Str → Option Value) (P Bk : σ → Prop) (μ : σ → Nat) (n : Nat) (f : Flow) (s₂ : Shared) : Prop :=
  match f with
  | .ret _ => False
  | .brk => WlAt h₀ L s Led ps stored m₀ Bk s₂
  | _ => WlAt h₀ L s Led ps stored m₀ (fun c => P c ∧ μ c < n) s₂
theorem wl_at {σ : Type} {Led : σ → List (Addr × Obj)} {ps : σ → List (Str × Value)} {stored : List Str} {m₀ m' : Str → Option Value} {P : σ → Prop} {h' : Heap} {tk : Nat} {news' : List (Addr × Obj)} (c' : σ)
    (F : Fr h₀ L h' m') (N : News h₀ L h' news') (hn : ∀ p ∈ Led c', p ∈ news') (hk : ∀ p ∈ ps c', m' p.1 = some p.2) (hr : ∀ z, (∀ p ∈ ps c', z ≠ p.1) → stored.contains z = false → m' z = m₀ z) (hp : P c') :
    WlAt h₀ L s Led ps stored m₀ P { s with heap := h', toks := tk } := ⟨c', h', tk, m', news', rfl, F, N, hn, hk, hr, hp⟩
theorem wl_while {σ : Type} {test : Expr} {body : List Stmt} {pos : Pos} {m₀ : Str → Option Value} (Led : σ → List (Addr × Obj)) (ps : σ → List (Str × Value)) (stored : List Str) (P Bk : σ → Prop) (μ : σ → Nat) (c₀ : σ)
    (F : Fr h₀ L s.heap m₀) (N : News h₀ L s.heap (Led c₀)) (hk : ∀ p ∈ ps c₀, m₀ p.1 = some p.2) (hp : P c₀)
    (turn : ∀ (c : σ) (u : Str → Option Value) h tk, P c → Fr h₀ L h (kstB (fun z => if stored.contains z then u z else m₀ z) (ps c)) → News h₀ L h (Led c) →
      wpAny (model prog' w) A (isTrue test env (eval test env)) (fun b s₂ =>
        if b = true then wpAny (model prog' w) A (execs body env) (WlPost h₀ L s Led ps stored m₀ P Bk μ (μ c)) (fun _ _ => False) s₂ else False) (fun _ _ => False) { s with heap := h, toks := tk })
    (after : ∀ (c : σ) (u : Str → Option Value) h tk, Bk c → Fr h₀ L h (kstB (fun z => if stored.contains z then u z else m₀ z) (ps c)) → News h₀ L h (Led c) → Q .next { s with heap := h, toks := tk }) :
    wpAny (model prog' w) A (exec (.While test body [] pos) env) Q E s := by
  refine wpAny_mono (Q := fun f s' => f = .next ∧ WlAt h₀ L s Led ps stored m₀ Bk s') (E := fun _ _ => False) ?_ (fun f s' hh => ?_) (fun _ _ hh => hh.elim)
  · refine While_inv2 (fun n m nx => ∃ c : σ, nx = Led c ∧ μ c = n ∧ (∀ p ∈ ps c, m p.1 = some p.2) ∧ (∀ z, (∀ p ∈ ps c, z ≠ p.1) → stored.contains z = false → m z = m₀ z) ∧ P c) F N ⟨c₀, rfl, rfl, hk, fun _ _ _ => rfl, hp⟩ ?_ PassesOwn.never
    rintro n m₁ nx h tk F₁ N₁ ⟨c, hnx, hsz, h1, h2, hp'⟩
    rw [hnx] at N₁
    rw [← hsz]
    refine wpAny_mono (turn c m₁ h tk hp' (ksw_fr h1 h2 F₁) N₁) (fun b s₂ p => ?_) fun _ _ x => x
    cases b with
    | false => simp at p
    | true =>
      simp only [if_true] at p ⊢
      refine wpAny_mono p (fun f s₃ q => ?_) fun _ _ x => x
      cases f with
      | ret v => exact q.elim
      | brk => exact ⟨rfl, q⟩
      | next =>
        obtain ⟨c', h', tk', m', news', rfl, F', N', hn, hk9, hr9, hp9, hm9⟩ := q
        exact ⟨h', tk', m', Led c', μ c', rfl, F', fun p hp => N' p (hn p hp), hm9, c', rfl, rfl, hk9, hr9, hp9⟩
      | cont =>
        obtain ⟨c', h', tk', m', news', rfl, F', N', hn, hk9, hr9, hp9, hm9⟩ := q
        exact ⟨h', tk', m', Led c', μ c', rfl, F', fun p hp => N' p (hn p hp), hm9, c', rfl, rfl, hk9, hr9, hp9⟩
  · obtain ⟨rfl, c', h', tk', m', news', rfl, F', N', hn, hk9, hr9, hb⟩ := hh
    exact after c' m' h' tk' hb (ksw_fr hk9 hr9 F') fun p hp => N' p (hn p hp)
end
end Mine

local macro_rules | `(tactic| walk_at "call builtin:str.find") => `(tactic| (k_here; (with_reducible refine Mine.find4 ?_); intro t' k'))
namespace Mine
section
variable {w : World} {A₀ : Around} {base h₀ : Heap} {outer : List Env} {L : Addr} {m mg mb : Str → Option Value} {loose : List Str} {mean : ExcName → Option Value} {s : Shared} {Q E : Value → Shared → Prop} {p : Program}
  {hdl : Option Value} {d u : Nat} {gs : Option (List Code)} {rest : List (Addr × Obj)} {ns : List (Str × NameKind)} {ig ic : Bool} {mo : List (Str × Const)} {gl bi : Addr} {cs : List (Str × Addr)} {qn : Str} {fo : Option Addr} {cdv : Value}
theorem nl_is : Str.ofString "\n" = ⟨#[10]⟩ := by decide +kernel
theorem readline_end {h' : Heap} {io iod : Addr} {x : Str} {v : Value} {pos : Nat} {q : Int} {kt : IoT} {t' k : Tok}
  (hR : ∀ h' v pos' t' k, x.cps.toList.drop pos' = dropLine (x.cps.toList.drop pos) → Fr h₀ L h' m → News h₀ L h' ((io, instObj 587 iod) :: (iod, ioD w.params kt x pos' t') :: rest) → Q v { s with heap := h', toks := k })
  (e2 : q = (q.toNat : Int)) (e1 : x.cps.toList.drop q.toNat = dropLine (x.cps.toList.drop pos)) (F : Fr h₀ L h' m)
  (N : News h₀ L h' ((io, instObj 587 iod) :: (iod, dictOf [ent w.params "_StringIO__newline" kt.a (.str (Str.ofString "\n") kt.b), ent w.params "_StringIO__buf" kt.c (.str x kt.d), ent w.params "_StringIO__pos" kt.e (.int q t')] 3) :: rest)) :
  Q v { s with heap := h', toks := k } := by
  rw [e2] at N
  exact hR h' v q.toNat t' k e1 F N
theorem getD_drop {x : Str} {pos j : Nat} (h : pos + j < x.length) : (x.cps.toList.drop pos)[j]? = some (x.cps.getD (pos + j) 0) := by
  have h' : pos + j < x.cps.toList.length := by simpa [Str.length] using h
  rw [List.getElem?_drop, List.getElem?_eq_getElem h']
  simp [Array.getD, Str.length] at h ⊢
  intro h2; omega
open Builtin Builtin.Str in
theorem find_drop {x : Str} {pos : Nat} (hp : pos ≤ x.length) :
    (Txt.find3 x (Str.ofString "\n") pos < 0 ∧ dropLine (x.cps.toList.drop pos) = []) ∨
    (0 ≤ Txt.find3 x (Str.ofString "\n") pos ∧ x.cps.toList.drop (Txt.find3 x (Str.ofString "\n") pos + 1).toNat = dropLine (x.cps.toList.drop pos)) := by
  rw [nl_is]
  have hf : fromIndex x.length (pos : Int) = pos := by unfold fromIndex; rw [if_neg (by omega)]; omega
  rcases StrLaws.find3_spec x 10 (pos : Int) with ⟨h, hn⟩ | ⟨k, h, h1, h2, h3, h4⟩
  · left
    refine ⟨by omega, dropLine_none _ fun j hj => ?_⟩
    rw [hf] at hn
    by_cases hl : pos + j < x.length
    · rw [getD_drop hl] at hj
      exact hn (pos + j) (by omega) hl (by simpa using hj)
    · rw [List.getElem?_drop, List.getElem?_eq_none (by simp [Str.length] at hl ⊢; omega)] at hj
      cases hj
  · right
    rw [hf] at h1 h4
    refine ⟨by omega, ?_⟩
    rw [h]
    rw [dropLine_at _ (k - pos) ?_ ?_]
    · rw [List.drop_drop]
      congr 1
      omega
    · rw [getD_drop (by omega), show pos + (k - pos) = k by omega, h3]
    · intro j hj he
      rw [getD_drop (by omega)] at he
      exact h4 (pos + j) (by omega) (by omega) (by simpa using he)
theorem readline {io iod : Addr} {x : Str} {pos : Nat} {kt : IoT} {t2 : Tok}
  (B : Below A₀ base outer h₀) (F : Fr h₀ L s.heap m) (X : (hd.heap_1 w.params).In h₀) (T : Top p loose mean mg mb h₀) (hdp : d < 980) (hun : u < 9800)
  (hio : @LT.lt Nat _ iod io) (hx : x.length ≤ 100000) (hrest : ∀ p ∈ rest, p.1 ≠ iod) (hp : pos ≤ x.length)
  (N : News h₀ L s.heap ((io, instObj 587 iod) :: (iod, ioD w.params kt x pos t2) :: rest))
  (hR : ∀ h' v pos' t' k, x.cps.toList.drop pos' = dropLine (x.cps.toList.drop pos) → Fr h₀ L h' m → News h₀ L h' ((io, instObj 587 iod) :: (iod, ioD w.params kt x pos' t') :: rest) → Q v { s with heap := h', toks := k })
  : wpAny (model prog w) (ar hdl d (fenv ns ig ic mo gl cs qn fo cdv bi L :: outer) gs u) (call (.ref 541) [.ref io]) Q E s := by
  have hfd := find_drop hp
  refine wpAny_call ?_
  k_enter
  k_steps
  · refine readline_end hR (q := (pos : Int)) (by omega) ?_ (by assumption) (by assumption)
    have e : x.cps.toList.drop pos = [] := List.drop_of_length_le (by simp [Str.length] at *; omega)
    rw [show ((pos : Int)).toNat = pos by omega, e]; rfl
  · refine readline_end hR (q := Txt.find3 x (Str.ofString "\n") pos + 1) (by omega) ?_ (by assumption) (by assumption)
    rcases hfd with hfd | hfd
    · omega
    · exact hfd.2
  · refine readline_end hR (q := (x.length : Int)) (by omega) ?_ (by assumption) (by assumption)
    rcases hfd with hfd | hfd
    · rw [hfd.2]
      exact List.drop_of_length_le (by simp [Str.length])
    · omega
end
end Mine

local macro_rules | `(tactic| walk_at "compareOp In str str") => `(tactic| (k_here; (with_reducible show wpAny _ _ (compareOp CmpOp.In (Value.str (Str.mk #[_]) _) _) _ _ _); (with_reducible refine' Mine.in_ch ?e ?_); (case e => first | with_reducible assumption | rfl); k_whole))
local macro_rules | `(tactic| walk_at "compareOp NotIn str str") => `(tactic| (k_here; (with_reducible show wpAny _ _ (compareOp CmpOp.NotIn (Value.str (Str.mk #[_]) _) _) _ _ _); (with_reducible refine' Mine.notin_ch ?e ?_); (case e => first | with_reducible assumption | rfl); k_whole))
local macro_rules | `(tactic| walk_at "compareOp Eq str str") => `(tactic| (k_here; (with_reducible show wpAny _ _ (compareOp CmpOp.Eq (Value.str (Str.mk #[_]) _) (Value.str (Str.ofString "\n") _)) _ _ _); (with_reducible refine' Mine.eq_nl ?e ?_); (case e => first | with_reducible assumption | rfl); k_whole))
local macro_rules | `(tactic| walk_at "truthy str") => `(tactic| (k_here; (with_reducible show wpAny _ _ (truthy (Value.str (Str.mk #[_]) _)) _ _ _); (with_reducible refine Mine.truthy_ch ?_); (try dsimp only)))
local macro_rules | `(tactic| walk_at "call ref") => `(tactic| (k_here; (with_reducible show wpAny _ _ (call (Value.ref 533) [Value.ref _, Value.int 1 _]) _ _ _); k_dflt (first | (refine' Mine.read_c ?k1 ?k2 ?k3 ?k4 ?k5 ?k6 ?k7 ?k8 ?k9 ?k10 ?k11 ?_; (case k11 => k_asm); (case k10 => assumption); (case k1 => k_asm); (case k2 => k_asm); (case k3 => k_asm); (case k4 => k_asm); (case k5 => k_room); (case k6 => k_units); (case k7 => k_asm); (case k8 => k_asm); (case k9 => k_all); k_whole) | (refine' Mine.read_e ?k1 ?k2 ?k3 ?k4 ?k5 ?k6 ?k7 ?k8 ?k9 ?k10 ?k11 ?_; (case k11 => k_asm); (case k10 => assumption); (case k1 => k_asm); (case k2 => k_asm); (case k3 => k_asm); (case k4 => k_asm); (case k5 => k_room); (case k6 => k_units); (case k7 => k_asm); (case k8 => k_asm); (case k9 => k_all); k_whole)); intro h' t' t2' k' F' N'; (try dsimp only); (try k_sweep)))
local macro_rules | `(tactic| ktr_unf) => `(tactic| (repeat' (first | (k_unfold; (try dsimp only)) | ((fail_if_success (with_reducible show wpAny _ _ (exec (Stmt.While _ _ _ _) _) _ _ _)); walk1))))
local macro_rules | `(tactic| walk_at "ite") => `(tactic| first | with_reducible refine Mine.ite_t ?_ | with_reducible refine Mine.ite_f ?_)
local macro_rules | `(tactic| walk_at "truthy str") => `(tactic| (k_here; (with_reducible show wpAny _ _ (truthy (Value.str (Mine.S _) _)) _ _ _); (with_reducible refine' Mine.truthy_S ?e ?l ?_); (case e => with_reducible assumption); (case l => omega); k_whole; (try dsimp only)))
local macro_rules | `(tactic| walk_at "compareOp Eq str str") => `(tactic| (k_here; (with_reducible show wpAny _ _ (compareOp CmpOp.Eq (Value.str (Mine.S _) _) (Value.str (Str.ofString "") _)) _ _ _); (with_reducible refine' Mine.eq_S ?e ?_); (case e => with_reducible assumption); k_whole))
local macro_rules | `(tactic| walk_at "inplaceOp Add str str") => `(tactic| (k_here; (with_reducible show wpAny _ _ (inplaceOp Operator.Add (Value.str (Mine.S _) _) (Value.str (Str.mk #[_]) _)) _ _ _); (with_reducible refine' Mine.add_S ?l ?_); (case l => omega); intro t' k'; (try dsimp only)))
local macro_rules | `(tactic| walk_at "getMethod ref") => `(tactic| (k_here; (with_reducible show wpAny _ _ (getMethod (Value.ref _) (Str.ofString "appendleft") _) _ _ _); k_dflt (refine' Mine.dq_method Mine.dq_slot_appendleft Mine.dq_type_appendleft ?N ?m ?_; (case N => k_asm); (case m => k_mem); k_whole)))
local macro_rules | `(tactic| walk_at "call builtin:collections.deque.appendleft") => `(tactic| (k_here; k_dflt (refine' Mine.dq_appendleft ?F ?N ?U ?sz ?_; (case F => k_asm); (case N => k_asm); (case U => k_upd); (case sz => assumption); k_whole); intro h' F' N'; (try dsimp only); (try k_sweep)))
local macro_rules | `(tactic| walk_at "call ref") => `(tactic| (k_here; (with_reducible show wpAny _ _ (call (Value.ref 541) [Value.ref _]) _ _ _); k_dflt (refine' Mine.readline ?k1 ?k2 ?k3 ?k4 ?k5 ?k6 ?k7 ?k8 ?k9 ?k10 ?k11 ?_; (case k11 => first | k_asm | exact Mine.news_tl (by k_asm)); (case k1 => k_asm); (case k2 => k_asm); (case k3 => k_asm); (case k4 => k_asm); (case k5 => k_room); (case k6 => k_units); (case k7 => k_asm); (case k8 => k_asm); (case k9 => k_all); (case k10 => assumption); k_whole); intro h' v' p' t' k' hd' F' N'; (try dsimp only); (try k_sweep)))
local macro_rules | `(tactic| walk_at "exec If") => `(tactic| ((try k_fold); with_reducible refine wpAny_If ?_))
local macro_rules | `(tactic| walk_at "execs nil") => `(tactic| (with_reducible refine wpAny_execs_nil ?_))
local macro_rules | `(tactic| walk_at "compareOp In str str") => `(tactic| (k_here; (with_reducible show wpAny _ _ (compareOp CmpOp.In (Value.str (Str.ofString _) _) (Value.str (Str.ofString _) _)) _ _ _); first | ((with_reducible refine' Mine.in_lit_f ?e ?_); (case e => decide +kernel)) | ((with_reducible refine' Mine.in_lit_t ?e ?_); (case e => decide +kernel))))
local macro_rules | `(tactic| walk_at "getAttr ref") => `(tactic| (k_here; k_dflt (refine' get_own ?k1 ?k2 ?k3 ?k4 ?k5 ?k6 ?k7 ?k8 ?k9 ?_; (case k1 => k_asm); (case k2 => k_asm); (case k3 => k_inst); (case k4 => k_is); (case k5 => k_is); (case k6 => k_is); (case k7 => k_is); (case k8 => k_get); (case k9 => k_handed); k_whole)))
local macro_rules | `(tactic| walk_at "callWith ref") => `(tactic| (k_here; first
  | ((with_reducible show wpAny _ _ (callWith _ _ _ (backTo _ (starEach [] _)) []) _ _ _); row_timed "R1c" (refine' callWith_K0 ?k1 ?k2 ?_); row_timed "R1k1" (case k1 => exact Frag.In.keeps (by with_reducible assumption) (Fr.keep (by assumption))); row_timed "R1k2" (case k2 => k_is); k_whole; (try dsimp only [List.nil_append, List.cons_append, List.append_nil]))
  | (row_timed "R2c" (refine' callWith_K ?k1 ?k2 ?_); row_timed "R2k1" (case k1 => k_asm); row_timed "R2k2" (case k2 => k_is); k_whole)))
local macro_rules | `(tactic| walk_at "execs cons") => `(tactic| ((try dsimp only); with_reducible refine wpAny_execs_cons ?_))
namespace Mine
section
variable {w : World} {A₀ : Around} {base h₀ : Heap} {outer : List Env} {L : Addr} {m mg mb : Str → Option Value} {loose : List Str} {mean : ExcName → Option Value} {s : Shared} {Q E : Value → Shared → Prop} {p : Program}
  {hdl : Option Value} {d u : Nat} {gs : Option (List Code)} {rest : List (Addr × Obj)} {ns : List (Str × NameKind)} {ig ic : Bool} {mo : List (Str × Const)} {gl bi : Addr} {cs : List (Str × Addr)} {qn : Str} {fo : Option Addr} {cdv : Value}
def TkInv (x : Str) (b : Bool) (W : Nat → Bool) (tgt : RtR) (pbs : List Value) (c : LS) : Prop :=
  ∃ st l rem, SV st c.sv ∧ c.tok = S l ∧ x.cps.toList.drop c.pos = rem ∧ l.length + rem.length ≤ 100000 ∧ (st = .white → l = []) ∧ (st = .word → l.isEmpty = false) ∧ (st = .fin → rem = []) ∧ (∀ c ∈ rem, Plain c) ∧ rt b W st l rem c.ln = tgt ∧ c.pbs = pbs
def TkEnd (x : Str) (tgt : RtR) (pbs : List Value) (c : LS) : Prop :=
  ∃ l, c.tok = S l ∧ l.length ≤ 100000 ∧ SV tgt.st c.sv ∧ x.cps.toList.drop c.pos = tgt.rem ∧ c.ln = tgt.ln ∧ l = tgt.tok ∧ OV tgt.over c.pbs pbs
theorem meas {x : Str} {p q : Nat} {r : List Nat} (h : x.cps.toList.drop p = dropLine r) (hd : x.cps.toList.drop (q + 1) = r) (hq : q + 1 ≤ x.length) : x.length - p < x.length - q := by
  have h1 := congrArg List.length h
  have h2 := congrArg List.length hd
  have h3 := dropLine_le r
  simp [Str.length] at h1 h2 hq ⊢
  omega
theorem rtok {lx dx io iod pb fs : Addr} {x wc tkx : Str} {pos : Nat} {kt : IoT} {lt1 : LxT} {b : Bool} {ev f sv : Value} {ln : Int} {t2 tl tt : Tok} {pbs : List Value} {pn : Int} {st : LSt} {rem : List Nat}
  (B : Below A₀ base outer h₀) (F : Fr h₀ L s.heap m) (X : (hd.heap_1 w.params).In h₀) (T : Top p loose mean mg mb h₀) (hdp : d < 900) (hun : u < 9000)
  (hx : x.length ≤ 100000) (h1 : @LT.lt Nat _ dx lx) (h2 : @LT.lt Nat _ lx iod) (h3 : @LT.lt Nat _ iod io) (h4 : @LT.lt Nat _ io pb) (hr1 : ∀ p ∈ rest, p.1 ≠ iod) (hr2 : ∀ p ∈ rest, p.1 ≠ dx) (hr3 : ∀ p ∈ rest, p.1 ≠ pb)
  (hsv : SV st sv) (hrem : x.cps.toList.drop pos = rem) (hst : st ≠ .word) (hfin : st = .fin → rem = []) (hok : ∀ c ∈ rem, Plain c) (hpb : pbs.length ≤ 900000) (htk : tkx = S [])
  (N : News h₀ L s.heap ((io, instObj 587 iod) :: (iod, ioD w.params kt x pos t2) :: (pb, dqO pbs pn) :: (lx, instObj 722 dx) :: (dx, lexD w.params lt1 b false ev (Str.ofString "#") wc pb fs io f sv ln tl tkx tt) :: rest))
  (hQ : ∀ h' v sv' tl' tk' tt' pos' t2' pbs' pn' k, Fr h₀ L h' m →
    News h₀ L h' ((io, instObj 587 iod) :: (iod, ioD w.params kt x pos' t2') :: (pb, dqO pbs' pn') :: (lx, instObj 722 dx) :: (dx, lexD w.params lt1 b false ev (Str.ofString "#") wc pb fs io f sv' (rt b (fun c => wc.cps.toList.contains c) st [] rem ln).ln tl' tk' tt') :: rest) →
    tk' = S [] → SV (rt b (fun c => wc.cps.toList.contains c) st [] rem ln).st sv' → x.cps.toList.drop pos' = (rt b (fun c => wc.cps.toList.contains c) st [] rem ln).rem →
    RV b (rt b (fun c => wc.cps.toList.contains c) st [] rem ln).tok v → OV (rt b (fun c => wc.cps.toList.contains c) st [] rem ln).over pbs' pbs → Q v { s with heap := h', toks := k })
  : wpAny (model prog w) (ar hdl d (fenv ns ig ic mo gl cs qn fo cdv bi L :: outer) gs u) (call (.ref 690) [.ref lx]) Q E s := by
  have hremlen : rem.length ≤ 100000 := by rw [← hrem]; simp [Str.length] at hx ⊢; omega
  generalize htgt : rt b (fun c => wc.cps.toList.contains c) st [] rem ln = tgt at hQ
  refine wpAny_call ?_
  k_enter
  ktr_unf
  rename Fr _ _ _ _ => F1
  rename News _ _ _ _ => N1
  refine wl_while (σ := LS) (fun c => (io, instObj 587 iod) :: (iod, ioD w.params kt x c.pos c.tp) :: (pb, dqO c.pbs c.pn) :: (lx, instObj 722 dx) :: (dx, lexD w.params lt1 b false ev (Str.ofString "#") wc pb fs io f c.sv c.ln c.tl c.tok c.tt) :: rest) (fun _ => []) [Str.ofString "nextchar"]
    (TkInv x b (fun c => wc.cps.toList.contains c) tgt pbs) (TkEnd x tgt pbs) (fun c => x.length - c.pos) ⟨sv, ln, tl, tkx, tt, pos, t2, pbs, pn⟩ F1 N1 ?_ ?_ ?_ ?_
  · intro p hp; cases hp
  · exact ⟨st, [], rem, hsv, htk, hrem, by simpa using hremlen, fun _ => rfl, fun h => absurd h hst, hfin, hok, htgt, rfl⟩
  · clear N1 F1 htgt hfin hok hrem hremlen hsv hQ hst htk
    rintro ⟨sv, ln, tl, tok, tt, pos', tp, pbs', pn'⟩ u h tk ⟨st, l, rem, h5, h6, h7, h8, h9, h10, h11, h12, h13, h14⟩ F2 N2
    dsimp only at h5 h6 h7 h8 h9 h10 h11 h12 h13 h14 N2
    subst h6 h14
    have hpun : ∀ c, (Str.ofString "").cps.toList.contains c = false := fun c => by rw [S_nil]; rfl
    cases st with
    | fin =>
      have hr0 := h11 rfl
      subst hr0
      have hc : x.cps.toList.drop pos' = [] := h7
      subst h5
      rw [rt] at h13; subst h13
      k_steps
      all_goals ((try dsimp only [WlPost]); refine wl_at (σ := LS) ⟨_, _, _, _, _, _, _, _, _⟩ (by assumption) (by assumption) (fun p hp => hp) (fun p hp => nomatch hp) ?hr ?hp; (case hr => (intro z _ h3; have h4 : ¬ z = Str.ofString "nextchar" := (by intro e; subst e; simp at h3); simp only [kstB, h3, h4, if_false, Bool.false_eq_true])); (case hp => (exact ⟨[], S_nil, by simp, rfl, hc, rfl, rfl, rfl⟩)))
    | white =>
      obtain ⟨ts, rfl⟩ := h5
      have hl0 := h9 rfl
      subst hl0
      have hle : ([] : List Nat).isEmpty = true := rfl
      cases rem with
      | nil =>
        rw [rt] at h13; subst h13
        k_steps
        all_goals ((try dsimp only [WlPost]); refine wl_at (σ := LS) ⟨_, _, _, _, _, _, _, _, _⟩ (by assumption) (by assumption) (fun p hp => hp) (fun p hp => nomatch hp) ?hr ?hp; (case hr => (intro z _ h3; have h4 : ¬ z = Str.ofString "nextchar" := (by intro e; subst e; simp at h3); simp only [kstB, h3, h4, if_false, Bool.false_eq_true])); (case hp => (exact ⟨[], rfl, by simp, rfl, h7, rfl, rfl, rfl⟩)))
      | cons c r =>
        obtain ⟨hd, hpl⟩ := drop_next h7
        have hpl : pos' + 1 ≤ x.length := by simpa [Str.length] using hpl
        have hqs := (h12 c (.head _)).1
        have hes := (h12 c (.head _)).2
        have hpu := hpun c
        by_cases hc10 : (c == 10) = true
        · have hws : (Str.ofString " \t\x0d\n").cps.toList.contains c = true := by rw [beq_iff_eq.mp hc10]; decide +kernel
          rw [rt] at h13; simp only [isWs, hws, hc10, if_true] at h13
          k_steps
          all_goals ((try dsimp only [WlPost]); refine wl_at (σ := LS) ⟨_, _, _, _, _, _, _, _, _⟩ (by assumption) (by assumption) (fun p hp => hp) (fun p hp => nomatch hp) ?hr ?hp; (case hr => (intro z _ h3; have h4 : ¬ z = Str.ofString "nextchar" := (by intro e; subst e; simp at h3); simp only [kstB, h3, h4, if_false, Bool.false_eq_true])); (case hp => (exact ⟨⟨.white, [], r, ⟨_, rfl⟩, rfl, hd, by simp at h8 ⊢; omega, fun _ => rfl, fun h => (by cases h), fun h => (by cases h), fun a ha => h12 a (.tail _ ha), h13, rfl⟩, by dsimp only; omega⟩)))
        · have hc10 : (c == 10) = false := by simpa using hc10
          (repeat' (first | (k_unfold; (try dsimp only)) | ((fail_if_success (with_reducible show wpAny _ _ (compareOp CmpOp.In (Value.str (Str.mk #[_]) _) _) _ _ _)); walk1)))
          cases hws : (Str.ofString " \t\x0d\n").cps.toList.contains c with
          | true =>
            rw [rt] at h13; simp only [isWs, hws, hc10, if_true, if_false, Bool.false_eq_true] at h13
            k_steps
            all_goals ((try dsimp only [WlPost]); refine wl_at (σ := LS) ⟨_, _, _, _, _, _, _, _, _⟩ (by assumption) (by assumption) (fun p hp => hp) (fun p hp => nomatch hp) ?hr ?hp; (case hr => (intro z _ h3; have h4 : ¬ z = Str.ofString "nextchar" := (by intro e; subst e; simp at h3); simp only [kstB, h3, h4, if_false, Bool.false_eq_true])); (case hp => (exact ⟨⟨.white, [], r, ⟨_, rfl⟩, rfl, hd, by simp at h8 ⊢; omega, fun _ => rfl, fun h => (by cases h), fun h => (by cases h), fun a ha => h12 a (.tail _ ha), h13, rfl⟩, by dsimp only; omega⟩)))
          | false =>
            cases hcm : (Str.ofString "#").cps.toList.contains c with
            | true =>
              rw [rt] at h13; simp only [isWs, hws, isCm, hcm, if_true, if_false, Bool.false_eq_true] at h13
              k_steps
              all_goals ((try dsimp only [WlPost]); refine wl_at (σ := LS) ⟨_, _, _, _, _, _, _, _, _⟩ (by assumption) (by assumption) (fun p hp => hp) (fun p hp => nomatch hp) ?hr ?hp; (case hr => (intro z _ h3; have h4 : ¬ z = Str.ofString "nextchar" := (by intro e; subst e; simp at h3); simp only [kstB, h3, h4, if_false, Bool.false_eq_true])); (case hp => (rename _ = dropLine _ => hdl; rw [hd] at hdl; exact ⟨⟨.white, [], dropLine r, ⟨_, rfl⟩, rfl, hdl, by have := dropLine_le r; simp at h8 ⊢; omega, fun _ => rfl, fun h => (by cases h), fun h => (by cases h), fun a ha => h12 a (.tail _ (dropLine_sub _ _ ha)), h13, rfl⟩, meas hdl hd hpl⟩)))
            | false =>
              cases hwc : wc.cps.toList.contains c with
              | true =>
                rw [rt] at h13; simp only [isWs, hws, isCm, hcm, hwc, if_true, if_false, Bool.false_eq_true] at h13
                k_steps
                all_goals ((try dsimp only [WlPost]); refine wl_at (σ := LS) ⟨_, _, _, _, _, _, _, _, _⟩ (by assumption) (by assumption) (fun p hp => hp) (fun p hp => nomatch hp) ?hr ?hp; (case hr => (intro z _ h3; have h4 : ¬ z = Str.ofString "nextchar" := (by intro e; subst e; simp at h3); simp only [kstB, h3, h4, if_false, Bool.false_eq_true])); (case hp => (exact ⟨⟨.word, [c], r, ⟨_, rfl⟩, rfl, hd, by simp at h8 ⊢; omega, fun h => (by cases h), fun _ => rfl, fun h => (by cases h), fun a ha => h12 a (.tail _ ha), h13, rfl⟩, by dsimp only; omega⟩)))
              | false =>
                rw [rt] at h13; simp only [isWs, hws, isCm, hcm, hwc, if_true, if_false, Bool.false_eq_true] at h13; subst h13
                k_steps
                all_goals ((try dsimp only [WlPost]); refine wl_at (σ := LS) ⟨_, _, _, _, _, _, _, _, _⟩ (by assumption) (by assumption) (fun p hp => hp) (fun p hp => nomatch hp) ?hr ?hp; (case hr => (intro z _ h3; have h4 : ¬ z = Str.ofString "nextchar" := (by intro e; subst e; simp at h3); simp only [kstB, h3, h4, if_false, Bool.false_eq_true])); (case hp => (exact ⟨[c], rfl, by simp, ⟨_, rfl⟩, hd, rfl, rfl, rfl⟩)))
    | word =>
      obtain ⟨ts, rfl⟩ := h5
      have hle := h10 rfl
      cases rem with
      | nil =>
        rw [rt] at h13; subst h13
        k_steps
        all_goals ((try dsimp only [WlPost]); refine wl_at (σ := LS) ⟨_, _, _, _, _, _, _, _, _⟩ (by assumption) (by assumption) (fun p hp => List.Mem.tail _ hp) (fun p hp => nomatch hp) ?hr ?hp; (case hr => (intro z _ h3; have h4 : ¬ z = Str.ofString "nextchar" := (by intro e; subst e; simp at h3); simp only [kstB, h3, h4, if_false, Bool.false_eq_true])); (case hp => (exact ⟨l, rfl, by omega, rfl, h7, rfl, rfl, rfl⟩)))
      | cons c r =>
        obtain ⟨hd, hpl⟩ := drop_next h7
        have hpl : pos' + 1 ≤ x.length := by simpa [Str.length] using hpl
        have hqs := (h12 c (.head _)).1
        have hes := (h12 c (.head _)).2
        have hpu := hpun c
        by_cases hc10 : (c == 10) = true
        · have hws : (Str.ofString " \t\x0d\n").cps.toList.contains c = true := by rw [beq_iff_eq.mp hc10]; decide +kernel
          rw [rt] at h13; simp only [isWs, hws, hc10, if_true] at h13; subst h13
          k_steps
          all_goals ((try dsimp only [WlPost]); refine wl_at (σ := LS) ⟨_, _, _, _, _, _, _, _, _⟩ (by assumption) (by assumption) (fun p hp => List.Mem.tail _ hp) (fun p hp => nomatch hp) ?hr ?hp; (case hr => (intro z _ h3; have h4 : ¬ z = Str.ofString "nextchar" := (by intro e; subst e; simp at h3); simp only [kstB, h3, h4, if_false, Bool.false_eq_true])); (case hp => (exact ⟨l, rfl, by omega, ⟨_, rfl⟩, hd, rfl, rfl, rfl⟩)))
        · have hc10 : (c == 10) = false := by simpa using hc10
          (repeat' (first | (k_unfold; (try dsimp only)) | ((fail_if_success (with_reducible show wpAny _ _ (compareOp CmpOp.In (Value.str (Str.mk #[_]) _) _) _ _ _)); walk1)))
          cases hws : (Str.ofString " \t\x0d\n").cps.toList.contains c with
          | true =>
            rw [rt] at h13; simp only [isWs, hws, hc10, if_true, if_false, Bool.false_eq_true] at h13; subst h13
            k_steps
            all_goals ((try dsimp only [WlPost]); refine wl_at (σ := LS) ⟨_, _, _, _, _, _, _, _, _⟩ (by assumption) (by assumption) (fun p hp => List.Mem.tail _ hp) (fun p hp => nomatch hp) ?hr ?hp; (case hr => (intro z _ h3; have h4 : ¬ z = Str.ofString "nextchar" := (by intro e; subst e; simp at h3); simp only [kstB, h3, h4, if_false, Bool.false_eq_true])); (case hp => (exact ⟨l, rfl, by omega, ⟨_, rfl⟩, hd, rfl, rfl, rfl⟩)))
          | false =>
            cases hcm : (Str.ofString "#").cps.toList.contains c with
            | true =>
              rw [rt] at h13; simp only [isWs, hws, isCm, hcm, if_true, if_false, Bool.false_eq_true] at h13
              cases b with
              | true =>
                simp only [if_true] at h13; subst h13
                k_steps
                all_goals ((try dsimp only [WlPost]); refine wl_at (σ := LS) ⟨_, _, _, _, _, _, _, _, _⟩ (by assumption) (by assumption) (fun p hp => hp) (fun p hp => nomatch hp) ?hr ?hp; (case hr => (intro z _ h3; have h4 : ¬ z = Str.ofString "nextchar" := (by intro e; subst e; simp at h3); simp only [kstB, h3, h4, if_false, Bool.false_eq_true])); (case hp => (rename _ = dropLine _ => hdl; rw [hd] at hdl; exact ⟨l, rfl, by omega, ⟨_, rfl⟩, hdl, rfl, rfl, rfl⟩)))
              | false =>
                simp only [if_false, Bool.false_eq_true] at h13
                k_steps
                all_goals ((try dsimp only [WlPost]); refine wl_at (σ := LS) ⟨_, _, _, _, _, _, _, _, _⟩ (by assumption) (by assumption) (fun p hp => hp) (fun p hp => nomatch hp) ?hr ?hp; (case hr => (intro z _ h3; have h4 : ¬ z = Str.ofString "nextchar" := (by intro e; subst e; simp at h3); simp only [kstB, h3, h4, if_false, Bool.false_eq_true])); (case hp => (rename _ = dropLine _ => hdl; rw [hd] at hdl; exact ⟨⟨.word, l, dropLine r, ⟨_, rfl⟩, rfl, hdl, by have := dropLine_le r; simp at h8 ⊢; omega, fun h => (by cases h), fun _ => hle, fun h => (by cases h), fun a ha => h12 a (.tail _ (dropLine_sub _ _ ha)), h13, rfl⟩, meas hdl hd hpl⟩)))
            | false =>
              cases hwc : wc.cps.toList.contains c with
              | true =>
                rw [rt] at h13; simp only [isWs, hws, isCm, hcm, hwc, if_true, if_false, Bool.false_eq_true] at h13
                k_steps
                all_goals ((try dsimp only [WlPost]); refine wl_at (σ := LS) ⟨_, _, _, _, _, _, _, _, _⟩ (by assumption) (by assumption) (fun p hp => List.Mem.tail _ hp) (fun p hp => nomatch hp) ?hr ?hp; (case hr => (intro z _ h3; have h4 : ¬ z = Str.ofString "nextchar" := (by intro e; subst e; simp at h3); simp only [kstB, h3, h4, if_false, Bool.false_eq_true])); (case hp => (exact ⟨⟨.word, l ++ [c], r, ⟨_, rfl⟩, rfl, hd, by simp at h8 ⊢; omega, fun h => (by cases h), fun _ => (by simp), fun h => (by cases h), fun a ha => h12 a (.tail _ ha), h13, rfl⟩, by dsimp only; omega⟩)))
              | false =>
                rw [rt] at h13; simp only [isWs, hws, isCm, hcm, hwc, if_true, if_false, Bool.false_eq_true] at h13; subst h13
                k_steps
                all_goals ((try dsimp only [WlPost]); refine wl_at (σ := LS) ⟨_, _, _, _, _, _, _, _, _⟩ (by assumption) (by assumption) (fun p hp => List.Mem.tail _ hp) (fun p hp => nomatch hp) ?hr ?hp; (case hr => (intro z _ h3; have h4 : ¬ z = Str.ofString "nextchar" := (by intro e; subst e; simp at h3); simp only [kstB, h3, h4, if_false, Bool.false_eq_true])); (case hp => (exact ⟨l, rfl, by omega, ⟨_, rfl⟩, hd, rfl, rfl, ⟨_, rfl⟩⟩)))
  · rintro ⟨sv', ln', tl', tok, tt', pos', tp', pbs', pn'⟩ u h tk ⟨l, h6, h7, h8, h9, h10, h11, h12⟩ F2 N2
    dsimp only at h6 h8 h9 h10 h12 N2
    subst h6 h11 h10
    cases hle : tgt.tok.isEmpty
    all_goals k_steps
    all_goals (refine hQ _ _ _ _ _ _ _ _ _ _ _ (by assumption) (by assumption) S_nil h8 h9 ?_ h12)
    all_goals (first
      | (rename b = true => hb; subst hb; first | exact (by unfold RV; rw [hle]; exact rfl) | exact (by unfold RV; rw [hle]; exact ⟨_, rfl⟩))
      | (rename b = false => hb; subst hb; exact (by unfold RV; exact ⟨_, rfl⟩))
      | (rename ¬ b = true => hb; rw [Bool.not_eq_true] at hb; subst hb; exact (by unfold RV; exact ⟨_, rfl⟩)))
end
end Mine

namespace Mine
def GV (ev : Value) (tok : List Nat) (v : Value) : Prop := if tok.isEmpty then v = ev else ∃ t, v = .str (S tok) t
theorem eq_end {w : World} {A : Around} {E : Value → Shared → Prop} {s : Shared} {Q : Value → Shared → Prop} {b : Bool} {tok : List Nat} {v ev : Value} (hR : RV b tok v) (hE : EV b ev) (h : Q (.bool tok.isEmpty) s) : wpAny (model prog w) A (compareOp .Eq v ev) Q E s := by
  unfold RV at hR
  unfold EV at hE
  cases b with
  | true =>
    simp only [if_true] at hE
    subst hE
    cases ht : tok.isEmpty with
    | true =>
      rw [ht] at hR h
      simp only [Bool.and_true, if_true] at hR
      subst hR
      exact PySem.EqNone.eq_none_none h
    | false =>
      rw [ht] at hR h
      simp only [Bool.and_false, Bool.false_eq_true, if_false] at hR
      obtain ⟨t, rfl⟩ := hR
      exact PySem.EqNone.eq_str_none h
  | false =>
    simp only [Bool.false_eq_true, if_false, Bool.false_and] at hE hR
    obtain ⟨t, rfl⟩ := hR
    obtain ⟨t, rfl⟩ := hE
    exact eq_S rfl h
theorem while_once {w : World} {A : Around} {E : Value → Shared → Prop} {Q : Flow → Shared → Prop} {s : Shared} {env : Env} {h₀ : Heap} {L : Addr} {test : Expr} {body : List Stmt} {pos : Pos} {m : Str → Option Value} {news : List (Addr × Obj)}
    (F : Fr h₀ L s.heap m) (N : News h₀ L s.heap news)
    (turn : ∀ h₁ tk₁, Fr h₀ L h₁ m → News h₀ L h₁ news →
      wpAny (model prog w) A (isTrue test env (eval test env)) (fun b s₂ =>
        if b = true then wpAny (model prog w) A (execs body env) (WhileStep2 h₀ L s (fun n m₁ nx => n = 0 ∧ m₁ = m ∧ nx = news) Q 0) E s₂ else Q .next s₂) E { s with heap := h₁, toks := tk₁ })
    (hE : PassesOwn (model prog w) A env E := by passes_own) :
    wpAny (model prog w) A (exec (.While test body [] pos) env) Q E s :=
  While_inv2 (n₀ := 0) (fun n m₁ nx => n = 0 ∧ m₁ = m ∧ nx = news) F N ⟨rfl, rfl, rfl⟩ (fun n m₁ nx h tk F₁ N₁ e => by
    obtain ⟨rfl, rfl, rfl⟩ := e
    exact turn h tk F₁ N₁) hE
theorem ev_handed {b : Bool} {ev : Value} (h : EV b ev) : handedIn ev = true := by
  unfold EV at h
  cases b with
  | true => simp only [if_true] at h; subst h; rfl
  | false => simp only [Bool.false_eq_true, if_false] at h; obtain ⟨t, rfl⟩ := h; rfl
theorem rv_gv {b : Bool} {tok : List Nat} {v ev : Value} (hR : RV b tok v) (he : tok.isEmpty = false) : GV ev tok v := by
  unfold RV at hR
  unfold GV
  rw [he] at hR ⊢
  simpa using hR
end Mine
local macro_rules | `(tactic| k_handed) => `(tactic| with_reducible assumption)
local macro_rules | `(tactic| walk_at "getAttr ref") => `(tactic| (k_here; k_dflt (refine' get_own ?k1 ?k2 ?k3 ?k4 ?k5 ?k6 ?k7 ?k8 ?k9 ?_; (case k1 => k_asm); (case k2 => k_asm); (case k3 => k_inst); (case k4 => k_is); (case k5 => k_is); (case k6 => k_is); (case k7 => k_is); (case k8 => k_get); (case k9 => k_handed); k_whole)))
local macro_rules | `(tactic| walk_at "callWith ref") => `(tactic| (k_here; first
  | ((with_reducible show wpAny _ _ (callWith _ _ _ (backTo _ (starEach [] _)) []) _ _ _); row_timed "R1c" (refine' callWith_K0 ?k1 ?k2 ?_); row_timed "R1k1" (case k1 => exact Frag.In.keeps (by with_reducible assumption) (Fr.keep (by assumption))); row_timed "R1k2" (case k2 => k_is); k_whole; (try dsimp only [List.nil_append, List.cons_append, List.append_nil]))
  | (row_timed "R2c" (refine' callWith_K ?k1 ?k2 ?_); row_timed "R2k1" (case k1 => k_asm); row_timed "R2k2" (case k2 => k_is); k_whole)))
local macro_rules | `(tactic| walk_at "execs nil") => `(tactic| (with_reducible refine wpAny_execs_nil ?_))
local macro_rules | `(tactic| walk_at "exec If") => `(tactic| ((try k_fold); with_reducible refine wpAny_If ?_))
local macro_rules | `(tactic| walk_at "ite") => `(tactic| first | with_reducible refine Mine.ite_t ?_ | with_reducible refine Mine.ite_f ?_)
local macro_rules | `(tactic| walk_at "execs cons") => `(tactic| ((try dsimp only); with_reducible refine wpAny_execs_cons ?_))
local macro_rules | `(tactic| walk_at "getMethod ref") => `(tactic| (k_here; (with_reducible show wpAny _ _ (getMethod (Value.ref _) (Str.ofString "appendleft") _) _ _ _); k_dflt (refine' Mine.dq_method Mine.dq_slot_appendleft Mine.dq_type_appendleft ?N ?m ?_; (case N => k_asm); (case m => k_mem); k_whole)))
local macro_rules | `(tactic| walk_at "getMethod ref") => `(tactic| (k_here; (with_reducible show wpAny _ _ (getMethod (Value.ref _) (Str.ofString "popleft") _) _ _ _); k_dflt (refine' Mine.dq_method Mine.dq_slot_popleft Mine.dq_type_popleft ?N ?m ?_; (case N => k_asm); (case m => k_mem); k_whole)))
local macro_rules | `(tactic| walk_at "call builtin:collections.deque.appendleft") => `(tactic| (k_here; k_dflt (refine' Mine.dq_appendleft ?F ?N ?U ?sz ?_; (case F => k_asm); (case N => k_asm); (case U => k_upd); (case sz => assumption); k_whole); intro h' F' N'; (try dsimp only); (try k_sweep)))
local macro_rules | `(tactic| walk_at "call builtin:collections.deque.popleft") => `(tactic| (k_here; k_dflt (refine' Mine.dq_popleft ?F ?N ?U ?sz ?_; (case F => k_asm); (case N => k_asm); (case U => k_upd); (case sz => assumption); k_whole); intro h' F' N'; (try dsimp only); (try k_sweep)))
local macro_rules | `(tactic| walk_at "truthy ref") => `(tactic| (k_here; k_dflt (refine' Mine.dq_truthy ?N ?m ?sz ?_; (case N => k_asm); (case m => k_mem); (case sz => first | assumption | (simp only [List.length_cons, List.length_nil]; omega)); k_whole); (try dsimp only [List.isEmpty_cons, List.isEmpty_nil, Bool.not_true, Bool.not_false])))
namespace Mine
section
variable {w : World} {A₀ : Around} {base h₀ : Heap} {outer : List Env} {L : Addr} {m mg mb : Str → Option Value} {loose : List Str} {mean : ExcName → Option Value} {s : Shared} {Q E : Value → Shared → Prop} {p : Program}
  {hdl : Option Value} {d u : Nat} {gs : Option (List Code)} {rest : List (Addr × Obj)} {ns : List (Str × NameKind)} {ig ic : Bool} {mo : List (Str × Const)} {gl bi : Addr} {cs : List (Str × Addr)} {qn : Str} {fo : Option Addr} {cdv : Value}
theorem push_tok {lx dx io pb fs : Addr} {wc cm tkx : Str} {lt1 : LxT} {b sp : Bool} {ev f sv tv : Value} {ln : Int} {tl tt : Tok} {pbs : List Value} {pn : Int}
  (B : Below A₀ base outer h₀) (F : Fr h₀ L s.heap m) (X : (hd.heap_1 w.params).In h₀) (T : Top p loose mean mg mb h₀) (hdp : d < 900) (hun : u < 9000)
  (h1 : @LT.lt Nat _ dx lx) (h5 : @LT.lt Nat _ lx pb) (hr3 : ∀ p ∈ rest, p.1 ≠ pb) (hpb : pbs.length ≤ 900000)
  (N : News h₀ L s.heap ((pb, dqO pbs pn) :: (lx, instObj 722 dx) :: (dx, lexD w.params lt1 b sp ev cm wc pb fs io f sv ln tl tkx tt) :: rest))
  (hQ : ∀ h' k, Fr h₀ L h' m → News h₀ L h' ((pb, dqO (tv :: pbs) (pn + 1)) :: (lx, instObj 722 dx) :: (dx, lexD w.params lt1 b sp ev cm wc pb fs io f sv ln tl tkx tt) :: rest) → Q .none { s with heap := h', toks := k })
  : wpAny (model prog w) (ar hdl d (fenv ns ig ic mo gl cs qn fo cdv bi L :: outer) gs u) (call (.ref 661) [.ref lx, tv]) Q E s := by
  refine wpAny_call ?_
  k_enter
  k_steps
  exact hQ _ _ (by assumption) (by assumption)
theorem get_tok1 {lx dx io pb fs : Addr} {wc cm tkx : Str} {lt1 : LxT} {b sp : Bool} {ev f sv tv : Value} {ln : Int} {tl tt : Tok} {pbs : List Value} {pn : Int}
  (B : Below A₀ base outer h₀) (F : Fr h₀ L s.heap m) (X : (hd.heap_1 w.params).In h₀) (T : Top p loose mean mg mb h₀) (hdp : d < 900) (hun : u < 9000)
  (h1 : @LT.lt Nat _ dx lx) (h5 : @LT.lt Nat _ lx pb) (hr3 : ∀ p ∈ rest, p.1 ≠ pb) (hpb : pbs.length < 900000)
  (N : News h₀ L s.heap ((pb, dqO (tv :: pbs) pn) :: (lx, instObj 722 dx) :: (dx, lexD w.params lt1 b sp ev cm wc pb fs io f sv ln tl tkx tt) :: rest))
  (hQ : ∀ h' k, Fr h₀ L h' m → News h₀ L h' ((pb, dqO pbs (pn + 1)) :: (lx, instObj 722 dx) :: (dx, lexD w.params lt1 b sp ev cm wc pb fs io f sv ln tl tkx tt) :: rest) → Q tv { s with heap := h', toks := k })
  : wpAny (model prog w) (ar hdl d (fenv ns ig ic mo gl cs qn fo cdv bi L :: outer) gs u) (call (.ref 683) [.ref lx]) Q E s := by
  have hpb' : pbs.length ≤ 900000 := by omega
  refine wpAny_call ?_
  k_enter
  k_steps
  exact hQ _ _ (by assumption) (by assumption)
end
end Mine
namespace Mine
section
variable {w : World} {A₀ : Around} {base h₀ : Heap} {outer : List Env} {L : Addr} {m mg mb : Str → Option Value} {loose : List Str} {mean : ExcName → Option Value} {s : Shared} {Q E : Value → Shared → Prop} {p : Program}
  {hdl : Option Value} {d u : Nat} {gs : Option (List Code)} {rest : List (Addr × Obj)} {ns : List (Str × NameKind)} {ig ic : Bool} {mo : List (Str × Const)} {gl bi : Addr} {cs : List (Str × Addr)} {qn : Str} {fo : Option Addr} {cdv : Value}
theorem get_tok0 {lx dx io iod pb fs : Addr} {x wc tkx : Str} {pos : Nat} {kt : IoT} {lt1 : LxT} {b : Bool} {ev f sv : Value} {ln : Int} {t2 tl tt : Tok} {pn fn : Int} {st : LSt} {rem : List Nat}
  (B : Below A₀ base outer h₀) (F : Fr h₀ L s.heap m) (X : (hd.heap_1 w.params).In h₀) (T : Top p loose mean mg mb h₀) (hdp : d < 800) (hun : u < 8000)
  (hx : x.length ≤ 100000) (h1 : @LT.lt Nat _ dx lx) (h2 : @LT.lt Nat _ lx iod) (h3 : @LT.lt Nat _ iod io) (h4 : @LT.lt Nat _ io pb) (h5 : @LT.lt Nat _ pb fs) (hr1 : ∀ p ∈ (fs, dqO [] fn) :: rest, p.1 ≠ iod) (hr2 : ∀ p ∈ (fs, dqO [] fn) :: rest, p.1 ≠ dx) (hr3 : ∀ p ∈ (fs, dqO [] fn) :: rest, p.1 ≠ pb)
  (hsv : SV st sv) (hrem : x.cps.toList.drop pos = rem) (hst : st ≠ .word) (hfin : st = .fin → rem = []) (hok : ∀ c ∈ rem, Plain c) (htk : tkx = S []) (hEV : EV b ev)
  (N : News h₀ L s.heap ((io, instObj 587 iod) :: (iod, ioD w.params kt x pos t2) :: (pb, dqO [] pn) :: (lx, instObj 722 dx) :: (dx, lexD w.params lt1 b false ev (Str.ofString "#") wc pb fs io f sv ln tl tkx tt) :: (fs, dqO [] fn) :: rest))
  (hQ : ∀ h' v sv' tl' tk' tt' pos' t2' pbs' pn' k, Fr h₀ L h' m →
    News h₀ L h' ((io, instObj 587 iod) :: (iod, ioD w.params kt x pos' t2') :: (pb, dqO pbs' pn') :: (lx, instObj 722 dx) :: (dx, lexD w.params lt1 b false ev (Str.ofString "#") wc pb fs io f sv' (rt b (fun c => wc.cps.toList.contains c) st [] rem ln).ln tl' tk' tt') :: (fs, dqO [] fn) :: rest) →
    tk' = S [] → SV (rt b (fun c => wc.cps.toList.contains c) st [] rem ln).st sv' → x.cps.toList.drop pos' = (rt b (fun c => wc.cps.toList.contains c) st [] rem ln).rem →
    GV ev (rt b (fun c => wc.cps.toList.contains c) st [] rem ln).tok v → OV (rt b (fun c => wc.cps.toList.contains c) st [] rem ln).over pbs' [] → Q v { s with heap := h', toks := k })
  : wpAny (model prog w) (ar hdl d (fenv ns ig ic mo gl cs qn fo cdv bi L :: outer) gs u) (call (.ref 683) [.ref lx]) Q E s := by
  have hevh := ev_handed hEV
  refine wpAny_call ?_
  k_enter
  (repeat' (first | (k_unfold; (try dsimp only)) | ((fail_if_success (with_reducible show wpAny _ _ (call (Value.ref 690) [Value.ref _]) _ _ _)); walk1)))
  refine' rtok ?k1 ?k2 ?k3 ?k4 ?k5 ?k6 hx h1 h2 h3 h4 hr1 hr2 hr3 hsv hrem hst hfin hok ?k20 htk ?k22 ?_
  case k22 => with_reducible assumption
  case k20 => exact Nat.zero_le _
  case k1 => with_reducible assumption
  case k2 => with_reducible assumption
  case k3 => with_reducible assumption
  case k4 => with_reducible assumption
  case k5 => k_room
  case k6 => k_units
  intro h' v' sv' tl' tk' tt' pos' t2' pbs' pn' k' F' N' e1' e2' e3' hRV e5'
  (try dsimp only)
  (repeat' (first | (k_unfold; (try dsimp only)) | ((fail_if_success (with_reducible show wpAny _ _ (exec (Stmt.While _ _ _ _) _) _ _ _)); walk1)))
  clear N
  rename Fr _ _ _ _ => F1
  rename News _ _ _ _ => N1
  refine while_once F1 N1 ?_ (by passes_own)
  intro h tk F2 N2
  clear F1 N1
  (repeat' (first | (k_unfold; (try dsimp only)) | ((fail_if_success (with_reducible show wpAny _ _ (compareOp CmpOp.Eq _ _) _ _ _)); walk1)))
  refine eq_end hRV hEV ?_
  cases hemp : (rt b (fun c => wc.cps.toList.contains c) st [] rem ln).tok.isEmpty with
  | true =>
    k_steps
    dsimp only
    k_steps
    dsimp only [WhileStep2]
    k_steps
    exact hQ h _ sv' tl' tk' tt' pos' t2' pbs' pn' _ (by assumption) (by assumption) e1' e2' e3' (by unfold GV; rw [hemp]; rfl) e5'
  | false =>
    k_steps
    exact hQ h _ sv' tl' tk' tt' pos' t2' pbs' pn' _ (by assumption) (by assumption) e1' e2' e3' (rv_gv hRV hemp) e5'
end
end Mine

local macro_rules | `(tactic| walk_at "execs nil") => `(tactic| (with_reducible refine wpAny_execs_nil ?_))
local macro_rules | `(tactic| walk_at "exec If") => `(tactic| ((try k_fold); with_reducible refine wpAny_If ?_))
local macro_rules | `(tactic| ktr_unf) => `(tactic| (repeat' (first | (k_unfold; (try dsimp only)) | ((fail_if_success (with_reducible show wpAny _ _ (exec (Stmt.While _ _ _ _) _) _ _ _)); walk1))))
local macro_rules | `(tactic| walk_at "ite") => `(tactic| first | with_reducible refine Mine.ite_t ?_ | with_reducible refine Mine.ite_f ?_)
local macro_rules | `(tactic| walk_at "execs cons") => `(tactic| ((try dsimp only); with_reducible refine wpAny_execs_cons ?_))
local macro_rules | `(tactic| walk_at "exec For Name Name cons nil") => `(tactic| (k_here; (rename Fr _ _ _ _ => lF'); (with_reducible refine For_invVF lF' ?k1 ?k2 ?_ ?k3 ?k4); (case k1 => exact rfl); (case k2 => exact rfl); (case k3 => exact fun _ => rfl); (case k4 => passes_own); k_whole))
namespace Mine
section
variable {w : World} {A₀ : Around} {base h₀ : Heap} {outer : List Env} {L : Addr} {m mg mb : Str → Option Value} {loose : List Str} {mean : ExcName → Option Value} {s : Shared} {Q E : Value → Shared → Prop} {p : Program}
  {hdl : Option Value} {d u : Nat} {gs : Option (List Code)} {rest : List (Addr × Obj)} {ns : List (Str × NameKind)} {ig ic : Bool} {mo : List (Str × Const)} {gl bi : Addr} {cs : List (Str × Addr)} {qn : Str} {fo : Option Addr} {cdv : Value}
def Good (c : Nat) : Prop := Plain c ∧ c < 1114112
structure TS where
  n : Int
  tn : Tok
  tx : List Nat
  tt : Tok
abbrev lawSigns : Str := Str.ofString "a= +b#\n\t(9_\x0dé×-"
theorem lt_gen {g h : Heap} {L : Addr} {m : Str → Option Value} {t t1 : Tok} (F : Fr g L h m) (h0 : m (Str.ofString "text") = some (.str (Str.ofString "") t)) (h1 : m (Str.ofString "signs") = some (.str lawSigns t1)) :
  ∃ m' t t1, Fr g L h m' ∧ m' (Str.ofString "text") = some (.str (S []) t) ∧ m' (Str.ofString "signs") = some (.str lawSigns t1) := ⟨m, t, t1, F, by rw [← S_nil]; exact h0, h1⟩
theorem lt_gen2 {g h : Heap} {L : Addr} {m1 u : Str → Option Value} {n : Int} {tx : List Nat} {v : Value} {t t0 t1 : Tok}
  (F : Fr g L h (fun y => if y = Str.ofString "n" then some (.int n t) else if y = Str.ofString "x" then some v else kstB (fun z => if [Str.ofString "n", Str.ofString "k", Str.ofString "sign", Str.ofString "code"].contains z then u z else m1 z) [(Str.ofString "text", .str (S tx) t0), (Str.ofString "signs", .str lawSigns t1)] y)) (hn : n < 16 ^ 9) :
  ∃ m' t n, n < 16 ^ 9 ∧ Fr g L h m' ∧ m' (Str.ofString "n") = some (.int n t) ∧ m' (Str.ofString "text") = some (.str (S tx) t0) ∧ m' (Str.ofString "signs") = some (.str lawSigns t1) ∧
    ∀ z, z ≠ Str.ofString "x" → (∀ p ∈ [(Str.ofString "text", Value.str (S tx) t0), (Str.ofString "signs", .str lawSigns t1)], z ≠ p.1) → [Str.ofString "n", Str.ofString "k", Str.ofString "sign", Str.ofString "code"].contains z = false → m' z = m1 z := by
  have a1 : ¬ Str.ofString "text" = Str.ofString "n" := by decide +kernel
  have a2 : ¬ Str.ofString "text" = Str.ofString "x" := by decide +kernel
  have a3 : ¬ Str.ofString "signs" = Str.ofString "n" := by decide +kernel
  have a4 : ¬ Str.ofString "signs" = Str.ofString "x" := by decide +kernel
  have a5 : ¬ Str.ofString "signs" = Str.ofString "text" := by decide +kernel
  refine ⟨_, t, n, hn, F, if_pos rfl, ?_, ?_, ?_⟩
  · simp only [kstB, a1, a2, if_true, if_false]
  · simp only [kstB, a3, a4, a5, if_true, if_false]
  · intro z hx hp hs
    have b1 := hp _ (.head _)
    have b2 := hp _ (.tail _ (.head _))
    dsimp only at b1 b2
    have b3 : ¬ z = Str.ofString "n" := by intro e; subst e; simp at hs
    simp only [kstB, hx, b1, b2, b3, hs, if_false, Bool.false_eq_true]
theorem lt_n (x : Int) : x.fmod (16 ^ Int.toNat 8) + 1 < 16 ^ 9 := by
  have h1 : x.fmod (16 ^ Int.toNat 8) < 16 ^ Int.toNat 8 := Int.fmod_lt_of_pos _ (by decide)
  have h2 : (16 : Int) ^ Int.toNat 8 = 4294967296 := by decide
  have h3 : (16 : Int) ^ 9 = 68719476736 := by decide
  omega
theorem lt_add {w : World} {A : Around} {E : Value → Shared → Prop} {s : Shared} {Q : Value → Shared → Prop} {l : List Nat} {y : Str} {t u : Tok} (hc : ∃ c, y = ⟨#[c]⟩ ∧ c < 1114112) (e : (Builtin.Str.occurrences (Str.ofString "'\"\\") y 0 (Str.ofString "'\"\\").length 1).isEmpty = true) (hl : l.length ≤ 100000)
    (h : ∀ c t' k, Good c → Q (.str (S (l ++ [c])) t') { s with toks := k }) : wpAny (model prog w) A (inplaceOp .Add (.str (S l) t) (.str y u)) Q E s := by
  obtain ⟨c, rfl, hlt⟩ := hc
  have h1 := StrLaws.found_one (Str.ofString "'\"\\") c
  rw [e] at h1
  have h2 : c ∉ (Str.ofString "'\"\\").cps.toList := by
    intro hm
    rw [decide_eq_true hm] at h1
    cases h1
  have e1 : (Str.ofString "'\"\\").cps.toList = [39, 34, 92] := by decide +kernel
  have e2 : (Str.ofString "'\"").cps.toList = [39, 34] := by decide +kernel
  have e3 : (Str.ofString "\\").cps.toList = [92] := by decide +kernel
  rw [e1] at h2
  simp only [List.mem_cons, List.not_mem_nil, or_false, not_or] at h2
  refine add_S hl fun t' k => h c t' k ⟨⟨?_, ?_⟩, hlt⟩
  · rw [e2]; simp [h2]
  · rw [e3]; simp [h2]
theorem sign_one {k : Int} (h0 : 0 ≤ k) (h : k < 16) (h15 : ¬ k = 15) : ∃ c, Txt.slice lawSigns (some k) (some (k + 1)) = ⟨#[c]⟩ ∧ c < 1114112 := by
  have hall : ∀ c ∈ lawSigns.cps.toList, c < 1114112 := by decide +kernel
  have hl : lawSigns.cps.size = 15 := by decide +kernel
  have e := eq_of_beq (slice_closes (x := lawSigns) (i := k) (j := k + 1) ⟨h0, by omega, by show k + 1 ≤ ((lawSigns.cps.size : Nat) : Int); rw [hl]; omega⟩)
  rw [e]
  have h1 : (k + 1 - k).toNat = 1 := by omega
  have h2 : k.toNat < lawSigns.cps.toList.length := by simp only [Array.length_toList, hl]; omega
  refine ⟨lawSigns.cps.toList[k.toNat], ?_, hall _ (List.getElem_mem _)⟩
  rw [h1, List.drop_eq_getElem_cons h2]
  rfl
theorem chr_lt (a : Int) : (a.fmod 1112064).toNat < 1114112 := by
  have := Int.fmod_lt_of_pos a (show (0 : Int) < 1112064 by decide); omega
theorem chr_lt2 (a : Int) : (a.fmod 1112064 + 2048).toNat < 1114112 := by
  have := Int.fmod_lt_of_pos a (show (0 : Int) < 1112064 by decide); omega
theorem lt_q {n : Int} (h : 0 < n) : 0 ≤ (n - 1).fdiv 16 ∧ 16 * (n - 1).fdiv 16 ≤ n - 1 := by
  rw [Int.fdiv_eq_ediv_of_nonneg _ (by decide)]; omega
theorem lt_q2 {q : Int} (h : 0 ≤ q) : 0 ≤ q.fdiv 1112064 ∧ q.fdiv 1112064 ≤ q := by
  rw [Int.fdiv_eq_ediv_of_nonneg _ (by decide)]; omega
theorem lt_m {n q : Int} (h : 0 < n) (hq : q ≤ (n - 1).fdiv 16) : q.toNat < n.toNat := by
  have := lt_q h; omega
theorem lt_p {n q : Int} {j a b : Nat} (h : 0 < n) (hq : q ≤ (n - 1).fdiv 16) (hn : n < 16 ^ j) (hl : a + j ≤ b) : ∃ j', q < 16 ^ j' ∧ a + 1 + j' ≤ b := by
  cases j with
  | zero => simp at hn; omega
  | succ j =>
    have := lt_q h
    rw [Int.pow_succ] at hn
    exact ⟨j, by omega, by omega⟩
theorem lt_p1 {n q : Int} {j b c : Nat} {l : List Nat} (h : 0 < n) (hq : q ≤ (n - 1).fdiv 16) (hp : ∀ a ∈ l, Good a) (hn : n < 16 ^ j) (hl : l.length + j ≤ b) (hc : Good c) : (∀ a ∈ l ++ [c], Good a) ∧ ∃ j', q < 16 ^ j' ∧ (l ++ [c]).length + j' ≤ b := by
  refine ⟨fun a ha => ?_, ?_⟩
  · rcases List.mem_append.mp ha with ha | ha
    · exact hp a ha
    · rw [List.mem_singleton.mp ha]; exact hc
  · obtain ⟨j', h1, h2⟩ := lt_p h hq hn hl
    exact ⟨j', h1, by simpa using h2⟩
theorem lt_p0 {n q : Int} {j b : Nat} {l : List Nat} (h : 0 < n) (hq : q ≤ (n - 1).fdiv 16) (hp : ∀ a ∈ l, Good a) (hn : n < 16 ^ j) (hl : l.length + j ≤ b) : (∀ a ∈ l, Good a) ∧ ∃ j', q < 16 ^ j' ∧ l.length + j' ≤ b := by
  obtain ⟨j', h1, h2⟩ := lt_p h hq hn hl
  exact ⟨hp, j', h1, by omega⟩
theorem sne_n_text : (Str.ofString "n" = Str.ofString "text") = False := eq_false (by decide +kernel)
theorem sne_n_sign : (Str.ofString "n" = Str.ofString "sign") = False := eq_false (by decide +kernel)
theorem sne_n_code : (Str.ofString "n" = Str.ofString "code") = False := eq_false (by decide +kernel)
theorem sne_n_k : (Str.ofString "n" = Str.ofString "k") = False := eq_false (by decide +kernel)
theorem sne_text_sign : (Str.ofString "text" = Str.ofString "sign") = False := eq_false (by decide +kernel)
theorem sne_text_code : (Str.ofString "text" = Str.ofString "code") = False := eq_false (by decide +kernel)
theorem sne_text_k : (Str.ofString "text" = Str.ofString "k") = False := eq_false (by decide +kernel)
theorem sne_text_n : (Str.ofString "text" = Str.ofString "n") = False := eq_false (by decide +kernel)
theorem sne_signs_text : (Str.ofString "signs" = Str.ofString "text") = False := eq_false (by decide +kernel)
theorem sne_signs_sign : (Str.ofString "signs" = Str.ofString "sign") = False := eq_false (by decide +kernel)
theorem sne_signs_code : (Str.ofString "signs" = Str.ofString "code") = False := eq_false (by decide +kernel)
theorem sne_signs_k : (Str.ofString "signs" = Str.ofString "k") = False := eq_false (by decide +kernel)
theorem sne_signs_n : (Str.ofString "signs" = Str.ofString "n") = False := eq_false (by decide +kernel)
theorem all3 {α : Type} {P : α → Prop} {a b c : α} (ha : P a) (hb : P b) (hc : P c) : ∀ p ∈ [a, b, c], P p := by
  intro p hp
  simp only [List.mem_cons, List.not_mem_nil, or_false] at hp
  rcases hp with rfl | rfl | rfl <;> assumption
theorem lt_end {g h h2 : Heap} {L l : Addr} {s : Shared} {tk tk2 nn j : Nat} {m1 m2 u2 : Str → Option Value} {n x : Int} {tx : List Nat} {t t0 t1 : Tok} {own rest : List (Addr × Obj)} {vs : Array Value} {pre : List Int}
  (F : Fr g L h2 (kstB (fun z => if [Str.ofString "k", Str.ofString "sign", Str.ofString "code"].contains z then u2 z else m2 z) [(Str.ofString "n", .int n t), (Str.ofString "text", .str (S tx) t0), (Str.ofString "signs", .str lawSigns t1)]))
  (N : News g L h2 ((l, listOf vs nn) :: rest ++ own))
  (e5 : ∀ z, z ≠ Str.ofString "x" → z ≠ Str.ofString "text" → z ≠ Str.ofString "signs" → [Str.ofString "n", Str.ofString "k", Str.ofString "sign", Str.ofString "code"].contains z = false → m2 z = m1 z)
  (hpl : ∀ a ∈ tx, Good a) (hl9 : tx.length + j ≤ 9 * pre.length + 9) :
  InvEndN g L (KstS (σ := TS) (fun c => (l, listOf vs nn) :: rest) (fun c => [(Str.ofString "text", .str (S c.tx) c.tt), (Str.ofString "signs", .str lawSigns t1)]) (fun _ => True) (Str.ofString "x") [Str.ofString "n", Str.ofString "k", Str.ofString "sign", Str.ofString "code"] m1 (fun pre c => (∀ a ∈ c.tx, Good a) ∧ c.tx.length ≤ 9 * pre.length) (pre ++ [x]))
    own (((l, listOf vs nn) :: rest).map (·.1)) { s with heap := h, toks := tk } { s with heap := h2, toks := tk2 } := by
  have a1 : ¬ Str.ofString "text" = Str.ofString "n" := by decide +kernel
  have a3 : ¬ Str.ofString "signs" = Str.ofString "n" := by decide +kernel
  have a5 : ¬ Str.ofString "signs" = Str.ofString "text" := by decide +kernel
  refine ⟨_, _, _, _, (l, listOf vs nn) :: rest, rfl, F, N, fun p hp => List.mem_append_left _ hp, fun p hp => List.mem_append_right _ hp, rfl, ⟨0, 0, tx, t0⟩, rfl, trivial, ?_, ?_, hpl, ?_⟩
  · intro p hp
    simp only [List.mem_cons, List.not_mem_nil, or_false] at hp
    rcases hp with rfl | rfl
    · simp only [kstB, a1, if_true, if_false]
    · simp only [kstB, a3, a5, if_true, if_false]
  · intro z hx hp hs
    have b1 := hp _ (.head _)
    have b2 := hp _ (.tail _ (.head _))
    dsimp only at b1 b2
    have b3 : ¬ z = Str.ofString "n" := by intro e; subst e; simp at hs
    have b4 : [Str.ofString "k", Str.ofString "sign", Str.ofString "code"].contains z = false := by
      simp only [List.contains_cons, Bool.or_eq_false_iff] at hs ⊢
      exact hs.2
    simp only [kstB, b1, b2, b3, b4, if_false, Bool.false_eq_true]
    exact e5 z hx b1 b2 hs
  · simp only [List.length_append, List.length_singleton]; omega
end
end Mine
local macro_rules | `(tactic| walk_at "compareOp NotIn str str") => `(tactic| (k_here; (with_reducible show wpAny _ _ (compareOp CmpOp.NotIn (Value.str _ _) (Value.str (Str.ofString "'\"\\") _)) _ _ _); (with_reducible refine P.notIn_str ?_)))
local macro_rules | `(tactic| walk_at "inplaceOp Add str str") => `(tactic| (k_here; (try dsimp only); (with_reducible refine' Mine.lt_add ?c ?e ?l ?_); (case c => first | exact ⟨_, rfl, Mine.chr_lt _⟩ | exact ⟨_, rfl, Mine.chr_lt2 _⟩ | exact Mine.sign_one (Int.fmod_nonneg_of_pos _ (by decide)) (Int.fmod_lt_of_pos _ (by decide)) (by assumption)); (case e => assumption); (case l => omega); intro c' t' k' hc'; (try dsimp only)))
local macro_rules | `(tactic| walk_at "KswEnd") => `(tactic| (refine' ksw_end (σ := Mine.TS) ⟨_, _, _, _⟩ (by assumption) (by assumption) ?hn trivial ?hk ?hr ?hp ?hm; (case hn => first | exact fun p hp => hp | exact (fun p hp => List.Mem.tail _ hp) | exact (fun p hp => List.Mem.tail _ (List.Mem.tail _ hp))); (case hk => (refine Mine.all3 ?_ ?_ ?_ <;> (simp only [kstB, Mine.sne_n_text, Mine.sne_n_sign, Mine.sne_n_code, Mine.sne_n_k, Mine.sne_text_sign, Mine.sne_text_code, Mine.sne_text_k, Mine.sne_text_n, Mine.sne_signs_text, Mine.sne_signs_sign, Mine.sne_signs_code, Mine.sne_signs_k, Mine.sne_signs_n, if_true, if_false]; try rfl))); (case hr => (intro z h1 h2; have b1 := h1 _ (.head _); have b2 := h1 _ (.tail _ (.head _)); have b3 := h1 _ (.tail _ (.tail _ (.head _))); dsimp only at b1 b2 b3; have b4 : ¬ z = Str.ofString "k" := (by intro e; subst e; simp at h2); have b5 : ¬ z = Str.ofString "sign" := (by intro e; subst e; simp at h2); have b6 : ¬ z = Str.ofString "code" := (by intro e; subst e; simp at h2); simp only [kstB, b1, b2, b3, b4, b5, b6, h2, if_false, Bool.false_eq_true])); (case hp => first | exact Mine.lt_p1 (by assumption) (by first | exact Int.le_refl _ | exact (Mine.lt_q2 (Mine.lt_q (by assumption)).1).2) (by assumption) (by assumption) (by assumption) (by assumption) | exact Mine.lt_p0 (by assumption) (by first | exact Int.le_refl _ | exact (Mine.lt_q2 (Mine.lt_q (by assumption)).1).2) (by assumption) (by assumption) (by assumption)); (case hm => exact Mine.lt_m (by assumption) (by first | exact Int.le_refl _ | exact (Mine.lt_q2 (Mine.lt_q (by assumption)).1).2))))
local macro_rules | `(tactic| walk_at "InvEndN") => `(tactic| (exact Mine.lt_end (by assumption) (by assumption) (by assumption) (by assumption) (by assumption)))
namespace Mine
section
variable {w : World} {A₀ : Around} {base h₀ : Heap} {outer : List Env} {L : Addr} {m mg mb : Str → Option Value} {loose : List Str} {mean : ExcName → Option Value} {s : Shared} {Q E : Value → Shared → Prop} {p : Program}
  {hdl : Option Value} {d u : Nat} {gs : Option (List Code)} {rest : List (Addr × Obj)} {ns : List (Str × NameKind)} {ig ic : Bool} {mo : List (Str × Const)} {gl bi : Addr} {cs : List (Str × Addr)} {qn : Str} {fo : Option Addr} {cdv : Value}
theorem lawtext {l : Addr} {vs : List Value} {nums : List Int} {nn : Nat}
  (B : Below A₀ base outer h₀) (F : Fr h₀ L s.heap m) (X : (hd.heap_1 w.params).In h₀) (T : Top p loose mean mg mb h₀) (hdp : d < 900) (hun : u < 9000)
  (hi : IntsAre vs nums) (hlen : nums.length ≤ 1000)
  (N : News h₀ L s.heap ((l, listOf vs.toArray nn) :: rest))
  (hQ : ∀ h' x t k, Fr h₀ L h' m → News h₀ L h' ((l, listOf vs.toArray nn) :: rest) → (∀ c ∈ x, Good c) → x.length ≤ 9 * nums.length → Q (.str (S x) t) { s with heap := h', toks := k })
  : wpAny (model prog w) (ar none d (fenv ns ig ic mo gl cs qn fo cdv bi L :: outer) gs u) (call (.ref 733) [.ref l]) Q E s := by
  refine wpAny_call ?_
  k_enter
  (repeat' (first | (k_unfold; (try dsimp only)) | ((fail_if_success (with_reducible show wpAny _ _ (pyIter _) _ _ _)); walk1)))
  rename Fr _ _ _ _ => F1
  rename News _ _ _ _ => N1
  obtain ⟨m1, t0, t1, F1, e0, e1⟩ := lt_gen F1 (if_pos rfl) ((if_neg (by decide +kernel)).trans (if_pos rfl))
  refine kst_listL (σ := TS) (fun c => (l, listOf vs.toArray nn) :: rest) (fun c => [(Str.ofString "text", .str (S c.tx) c.tt), (Str.ofString "signs", .str lawSigns t1)]) (fun _ => True) ([Str.ofString "n", Str.ofString "k", Str.ofString "sign", Str.ofString "code"]) (fun pre c => (∀ a ∈ c.tx, Good a) ∧ c.tx.length ≤ 9 * pre.length) ⟨0, 0, [], t0⟩ rfl (fun _ => .head _) hi F1 N1 trivial ?_ ?_ ?_ ?_
  · intro p hp
    rcases List.mem_cons.mp hp with rfl | hp
    · exact e0
    rcases List.mem_cons.mp hp with rfl | hp
    · exact e1
    · cases hp
  · exact ⟨by simp, by simp⟩
  · rintro ⟨n0, tn0, tx, tt⟩ pre post x tx0 u h tk own hns hxm hoff _ ⟨hpl, hl9⟩ F2 N2
    clear F1 N1
    dsimp only at F2 N2 hpl hl9
    ktr_unf
    rename Fr _ _ _ _ => F1
    rename News _ _ _ _ => N1
    obtain ⟨m2, tn2, n2, hn2, F1, e2, e3, e4, e5'⟩ := lt_gen2 F1 (lt_n x)
    have e5 : ∀ z, z ≠ Str.ofString "x" → z ≠ Str.ofString "text" → z ≠ Str.ofString "signs" → [Str.ofString "n", Str.ofString "k", Str.ofString "sign", Str.ofString "code"].contains z = false → m2 z = m1 z := fun z hx h1 h2 hs => e5' z hx (fun p hp => by simp only [List.mem_cons, List.not_mem_nil, or_false] at hp; rcases hp with rfl | rfl <;> assumption) hs
    clear e5'
    refine ksw_while (σ := TS) (fun c => (l, listOf vs.toArray nn) :: rest ++ own) (fun c => [(Str.ofString "n", .int c.n c.tn), (Str.ofString "text", .str (S c.tx) c.tt), (Str.ofString "signs", .str lawSigns t1)]) (fun _ => True) ([Str.ofString "k", Str.ofString "sign", Str.ofString "code"])
      (fun c => (∀ a ∈ c.tx, Good a) ∧ ∃ j : Nat, c.n < 16 ^ j ∧ c.tx.length + j ≤ 9 * pre.length + 9) (fun c => c.n.toNat) ⟨n2, tn2, tx, tt⟩ F1 N1 trivial ?_ ?_ ?_ ?_
    · intro p hp
      rcases List.mem_cons.mp hp with rfl | hp
      · exact e2
      rcases List.mem_cons.mp hp with rfl | hp
      · exact e3
      rcases List.mem_cons.mp hp with rfl | hp
      · exact e4
      · cases hp
    · exact ⟨hpl, 9, hn2, by dsimp only; omega⟩
    · clear F1 N1 F2 N2 hQ e2 e3 e4 hpl hl9 N F hxm
      rintro ⟨n1, tn1, tx1, tt1⟩ u2 h2 tk2 _ ⟨hpl, j, hnj, hl9⟩ F2 N2
      dsimp only at F2 N2 hpl hl9 hnj
      have hpre : pre.length ≤ 1000 := by rw [hns] at hlen; simp at hlen; omega
      k_steps
    · passes_own
  · rintro ⟨n0, tn0, tx, tt⟩ u h tk _ ⟨hpl, hl9⟩ F2 N2
    clear F1 N1
    dsimp only at F2 N2 hpl hl9
    k_steps
    exact hQ _ _ _ _ (by assumption) (by assumption) hpl hl9
end
end Mine

namespace Mine
section
variable {prog' : Program} {w : World} {A : Around} {E : Value → Shared → Prop} {Q : Flow → Shared → Prop} {s : Shared} {env : Env} {h₀ : Heap} {x : Str} {body : List Stmt}
/-- one pass of a for loop over a list of strings ends in a state c' -/
def StS {σ : Type} (Led : σ → List (Addr × Obj)) (ps : σ → List (Str × Value)) (x : Str) (stored : List Str) (m₀ : Str → Option Value) (P : List Str → σ → Prop) (pre : List Str) (m : Str → Option Value) (nx : List (Addr × Obj)) : Prop :=
  ∃ c : σ, nx = Led c ∧ (∀ p ∈ ps c, m p.1 = some p.2) ∧ (∀ z, z ≠ x → (∀ p ∈ ps c, z ≠ p.1) → stored.contains z = false → m z = m₀ z) ∧ P pre c
theorem strs_loop {σ : Type} {l : Addr} {vs : List Value} {ws : List Str} {nn : Nat} {m₀ : Str → Option Value} (Led : σ → List (Addr × Obj)) (ps : σ → List (Str × Value)) (stored : List Str) (P : List Str → σ → Prop) (c₀ : σ)
    (hh : A.handled = none) (hi : StrsAre vs ws) (F : Fr h₀ env.locals s.heap m₀) (N : News h₀ env.locals s.heap ((l, listOf vs.toArray nn) :: Led c₀)) (hlt : ∀ p ∈ Led c₀, p.1 ≠ l) (hk : ∀ p ∈ ps c₀, m₀ p.1 = some p.2) (hp : P [] c₀)
    (turn : ∀ (c : σ) pre post n t (u : Str → Option Value) h tk own, ws = pre ++ n :: post → OwnOff own ((Led c₀).map (·.1)) → P pre c →
      Fr h₀ env.locals h (fun y => if y = x then some (.str n t) else kstB (fun z => if stored.contains z then u z else m₀ z) (ps c) y) → News h₀ env.locals h (Led c ++ own) →
      wpAny (model prog' w) A (execs body env) (InvPostN h₀ env.locals (StS Led ps x stored m₀ P (pre ++ [n])) own ((Led c₀).map (·.1)) { s with heap := h, toks := tk } Q) E { s with heap := h, toks := tk })
    (done : ∀ (c : σ) (u : Str → Option Value) h tk, P ws c → Fr h₀ env.locals h (fun y => if y = x then u y else kstB (fun z => if stored.contains z then u z else m₀ z) (ps c) y) → News h₀ env.locals h (Led c) → Q .next { s with heap := h, toks := tk }) :
    wpAny (model prog' w) A (pyIter (.ref l)) (fun it s₂ => LoopAtV prog' w A h₀ env x body Q E it s₂) E s := by
  have hol : s.heap.get? l = some (listOf vs.toArray nn) := (N _ (.head _)).1
  have hls : s.heap.IsList l vs.toArray := ⟨_, hol, rfl, nn, rfl⟩
  have hne : l ≠ s.heap.objs.size := Nat.ne_of_lt (Heap.lt_size hol)
  have N1 : News h₀ env.locals s.heap (Led c₀) := fun p hp => N p (.tail _ hp)
  have hlen : vs.toArray.size = ws.length := by simp [hi.length]
  refine wpAny_pyIter_list hls ?_
  have W := Walks.list (prog := prog') (w := w) hh s.heap.objs.size l hne vs.toArray
  rw [hlen] at W
  refine loop_invN (fun i m nx => StS Led ps x stored m₀ P (ws.take i) m nx) W ?_ ?_ ?_ ?_ ⟨⟨_, Heap.get?_push_size _ rfl, rfl, rfl⟩, hls.at fun o e => Heap.get?_push_of_some _ e⟩ (F.push _) (fun p hp => ⟨Heap.get?_push_of_some _ (N1 p hp).1, (N1 p hp).2⟩) ⟨c₀, rfl, hk, fun _ _ _ _ => rfl, by simpa using hp⟩ ?_ ?_
  · intro hm
    rcases List.mem_cons.mp hm with e | hm
    · exact absurd F.ns.lt (e ▸ Nat.lt_irrefl _)
    · exact (N _ (.head _)).2.1 ((List.mem_singleton.mp hm).symm)
  · intro b hb
    rw [List.mem_singleton.mp hb]
    exact next_is_new F
  · intro p hp hI
    exact absurd (Heap.lt_size (N1 p hp).1) ((List.mem_singleton.mp hI) ▸ Nat.lt_irrefl _)
  · intro p hp hI
    rcases List.mem_cons.mp hI with e | hI
    · exact absurd (Heap.lt_size (N1 p hp).1) (e ▸ Nat.lt_irrefl _)
    · exact hlt p hp (List.mem_singleton.mp hI)
  · rintro i v m₁ nx h tk own hi' hv _ hoff ⟨c, rfl, h1, h2, hp'⟩ F₁ N₁
    obtain ⟨t, hx⟩ := hi.get i ws[i] (List.getElem?_eq_getElem hi')
    have hv' : v = .str ws[i] t := by
      have h3 : vs[i]? = some v := by rw [← List.getElem?_toArray]; exact hv
      rw [hx] at h3
      exact (Option.some.inj h3).symm
    subst hv'
    have hn' : ws[i]? = some ws[i] := List.getElem?_eq_getElem hi'
    have hs : ws.take (i + 1) = ws.take i ++ [ws[i]] := by rw [List.take_add_one, hn']; rfl
    have e : ws = ws.take i ++ ws[i] :: ws.drop (i + 1) := by
      have ht := List.take_append_drop (i + 1) ws
      rw [hs, List.append_assoc] at ht
      exact ht.symm
    rw [hs]
    exact turn c _ _ _ t m₁ h tk own e hoff hp' (kst_fr h1 h2 F₁) N₁
  · rintro m₁ nx h tk ⟨c, rfl, h1, h2, hp'⟩ F₁ N₁
    rw [List.take_length] at hp'
    exact done c m₁ h tk hp' (kst_frOut h1 h2 F₁) N₁
end
end Mine

local macro_rules | `(tactic| walk_at "execs nil") => `(tactic| (with_reducible refine wpAny_execs_nil ?_))
local macro_rules | `(tactic| walk_at "exec If") => `(tactic| ((try k_fold); with_reducible refine wpAny_If ?_))
local macro_rules | `(tactic| ktr_unf) => `(tactic| (repeat' (first | (k_unfold; (try dsimp only)) | ((fail_if_success (with_reducible show wpAny _ _ (exec (Stmt.While _ _ _ _) _) _ _ _)); walk1))))
local macro_rules | `(tactic| walk_at "ite") => `(tactic| first | with_reducible refine Mine.ite_t ?_ | with_reducible refine Mine.ite_f ?_)
local macro_rules | `(tactic| walk_at "execs cons") => `(tactic| ((try dsimp only); with_reducible refine wpAny_execs_cons ?_))
local macro_rules | `(tactic| walk_at "exec For Name Call cons nil") => `(tactic| (k_here; (rename Fr _ _ _ _ => lF'); (with_reducible refine For_invVF lF' ?k1 ?k2 ?_ ?k3 ?k4); (case k1 => exact rfl); (case k2 => exact rfl); (case k3 => exact fun _ => rfl); (case k4 => passes_own); k_whole))
namespace Mine
section
variable {w : World} {A₀ : Around} {base h₀ : Heap} {outer : List Env} {L : Addr} {m mg mb : Str → Option Value} {loose : List Str} {mean : ExcName → Option Value} {s : Shared} {Q E : Value → Shared → Prop} {p : Program}
  {hdl : Option Value} {d u : Nat} {gs : Option (List Code)} {rest : List (Addr × Obj)} {ns : List (Str × NameKind)} {ig ic : Bool} {mo : List (Str × Const)} {gl bi : Addr} {cs : List (Str × Addr)} {qn : Str} {fo : Option Addr} {cdv : Value}
structure NS where
  tx : List Nat
  tt : Tok
theorem nc_gen {g h : Heap} {L : Addr} {m : Str → Option Value} {t : Tok} {b : Bool} (F : Fr g L h m) (h0 : m (Str.ofString "plain") = some (.str (Str.ofString "") t)) (h1 : m (Str.ofString "posix") = some (.bool b)) :
  ∃ m' t, Fr g L h m' ∧ m' (Str.ofString "plain") = some (.str (S []) t) ∧ m' (Str.ofString "posix") = some (.bool b) := ⟨m, t, F, by rw [← S_nil]; exact h0, h1⟩
theorem nc_add {w : World} {A : Around} {E : Value → Shared → Prop} {s : Shared} {Q : Value → Shared → Prop} {l : List Nat} {y : Str} {t u : Tok} (hl : l.length + y.cps.toList.length ≤ 1000000)
    (h : ∀ t' k, Q (.str (S (l ++ y.cps.toList)) t') { s with toks := k }) : wpAny (model prog w) A (inplaceOp .Add (.str (S l) t) (.str y u)) Q E s := by
  refine PyProof.Rows.iadd_str (fun t' k => ?_) ?_
  · have e : S l ++ y = S (l ++ y.cps.toList) := by
      show Str.append _ _ = _
      simp [Str.append, S]
    rw [e]; exact h t' k
  · simp only [S, Str.length, List.size_toArray, sizeLine]
    simp only [Array.length_toList] at hl
    omega
theorem nc_len {b : Bool} {x n : Str} {pre post : List Str} (e : Txt.split x (Str.ofString "\n") = pre ++ n :: post) (hx : x.length ≤ 100000) : (lnsOut b pre).length + (Txt.partition n (Str.ofString "#")).1.cps.toList.length ≤ 200000 := by
  have e1 : Str.ofString "\n" = ⟨#[10]⟩ := by decide +kernel
  have e2 : Str.ofString "#" = ⟨#[35]⟩ := by decide +kernel
  rw [e2, part_one]
  have h1 := cf_split b x
  rw [e1] at e
  rw [e] at h1
  have h2 := congrArg List.length h1
  have h3 := cf_len b false x.cps.toList
  have h4 : x.cps.toList.length = x.length := by simp [Str.length]
  simp only [lnsOut, List.flatMap_append, List.flatMap_cons, List.length_append, lnOut] at h2 ⊢
  omega
theorem nc_t {b : Bool} {n : Str} {pre : List Str} (h : b = true ∨ (Builtin.Str.occurrences n (Str.ofString "#") 0 n.length 1).isEmpty = true) : lnsOut b pre ++ (Txt.partition n (Str.ofString "#")).1.cps.toList ++ (Str.ofString "\n").cps.toList = lnsOut b (pre ++ [n]) := by
  have e1 : (Str.ofString "\n").cps.toList = [10] := by decide +kernel
  have e2 : Str.ofString "#" = ⟨#[35]⟩ := by decide +kernel
  rw [e2] at h ⊢
  have hf := StrLaws.found_one n 35
  rw [part_one, e1]
  have h2 : (b || !n.cps.toList.contains 35) = true := by
    rcases h with h | h
    · rw [h]; rfl
    · have h3 : 35 ∉ n.cps.toList := by
        intro hm
        rw [decide_eq_true hm, h] at hf
        cases hf
      have : n.cps.toList.contains 35 = false := by simpa using h3
      rw [this]; simp
  simp only [lnsOut, List.flatMap_append, List.flatMap_cons, List.flatMap_nil, lnOut, h2, if_true, List.append_nil, List.append_assoc]
theorem nc_f {b : Bool} {n : Str} {pre : List Str} (hb : b = false) (h : (Builtin.Str.occurrences n (Str.ofString "#") 0 n.length 1).isEmpty = false) : lnsOut b pre ++ (Txt.partition n (Str.ofString "#")).1.cps.toList = lnsOut b (pre ++ [n]) := by
  have e2 : Str.ofString "#" = ⟨#[35]⟩ := by decide +kernel
  rw [e2] at h ⊢
  have hf := StrLaws.found_one n 35
  rw [h] at hf
  rw [part_one]
  have h2 : (b || !n.cps.toList.contains 35) = false := by
    have : n.cps.toList.contains 35 = true := by simpa using of_decide_eq_true hf.symm
    rw [this, hb]; rfl
  simp only [lnsOut, List.flatMap_append, List.flatMap_cons, List.flatMap_nil, lnOut, h2, if_false, List.append_nil, Bool.false_eq_true]
theorem nc_end {g h h2 : Heap} {L : Addr} {s : Shared} {tk tk2 : Nat} {m1 m2 : Str → Option Value} {b : Bool} {n : Str} {tx : List Nat} {t0 : Tok} {own rest N0 : List (Addr × Obj)} {pre : List Str}
  (F : Fr g L h2 m2) (N : News g L h2 N0) (hN : ∀ p ∈ rest ++ own, p ∈ N0)
  (h0 : m2 (Str.ofString "plain") = some (.str (S tx) t0)) (h1 : m2 (Str.ofString "posix") = some (.bool b))
  (hr : ∀ z, z ≠ Str.ofString "line" → z ≠ Str.ofString "plain" → z ≠ Str.ofString "posix" → m2 z = m1 z) (htx : tx = lnsOut b (pre ++ [n])) :
  InvEndN g L (StS (σ := NS) (fun _ => rest) (fun c => [(Str.ofString "plain", .str (S c.tx) c.tt), (Str.ofString "posix", .bool b)]) (Str.ofString "line") [] m1 (fun pre c => c.tx = lnsOut b pre) (pre ++ [n]))
    own (rest.map (·.1)) { s with heap := h, toks := tk } { s with heap := h2, toks := tk2 } := by
  refine ⟨_, _, _, _, rest, rfl, F, N, fun p hp => hN p (List.mem_append_left _ hp), fun p hp => hN p (List.mem_append_right _ hp), rfl, ⟨tx, t0⟩, rfl, ?_, ?_, htx⟩
  · intro p hp
    simp only [List.mem_cons, List.not_mem_nil, or_false] at hp
    rcases hp with rfl | rfl
    · exact h0
    · exact h1
  · intro z hx hp _
    exact hr z hx (hp _ (.head _)) (hp _ (.tail _ (.head _)))
theorem nc_n1 : (Str.ofString "posix" = Str.ofString "plain") = False := eq_false (by decide +kernel)
theorem nc_n2 : (Str.ofString "posix" = Str.ofString "line") = False := eq_false (by decide +kernel)
theorem nc_n3 : (Str.ofString "plain" = Str.ofString "line") = False := eq_false (by decide +kernel)
end
end Mine
local macro_rules | `(tactic| walk_at "inplaceOp Add str str") => `(tactic| (k_here; (try dsimp only); (with_reducible refine' Mine.nc_add ?l ?_); (case l => first | omega | ((simp only [List.length_append]; have e10 : (Str.ofString "\n").cps.toList.length = 1 := (by decide +kernel); rw [e10]; omega))); intro t' k'; (try dsimp only)))
local macro_rules | `(tactic| walk_at "call builtin:str.partition") => `(tactic| (k_here; (with_reducible show wpAny _ _ (call (Value.builtin "str.partition") [Value.str _ _, Value.str _ _]) _ _ _); (refine' KXpa.partition (by k_asm) (by k_asm) (by decide) rfl rfl rfl (by assumption) ?_); intro D' _ _ _ _ _ F' N' l1; (try k_lt l1)))
local macro_rules | `(tactic| walk_at "call builtin:str.split") => `(tactic| (k_here; (with_reducible show wpAny _ _ (call (Value.builtin "str.split") [Value.str _ _, Value.str _ _]) _ _ _); (refine' KSpl.split1 (by k_asm) (by k_asm) (by decide) ?_ ?sz; (case sz => (have e11 : sizeLine ≥ 1000000 := (by decide +kernel); omega)); intro D' l' h' k' e' a' F' N' l1)))
local macro_rules | `(tactic| walk_at "InvEndN") => `(tactic| (refine' Mine.nc_end (by assumption) (by assumption) ?hN ?h0 ?h1 ?hr ?ht; (case hN => first | exact fun p hp => hp | exact (fun p hp => List.Mem.tail _ hp) | exact (fun p hp => List.Mem.tail _ (List.Mem.tail _ hp))); (case h0 => (simp only [kstB, Mine.nc_n1, Mine.nc_n2, Mine.nc_n3, if_true, if_false]; try rfl)); (case h1 => (simp only [kstB, Mine.nc_n1, Mine.nc_n2, Mine.nc_n3, if_true, if_false]; try rfl)); (case hr => (intro z h1 h2 h3; simp only [kstB, h1, h2, h3, if_false, List.contains_nil, Bool.false_eq_true])); (case ht => first | exact Mine.nc_t (by first | exact Or.inl rfl | exact Or.inr (by assumption)) | exact Mine.nc_f rfl (by assumption))))
namespace Mine
section
variable {w : World} {A₀ : Around} {base h₀ : Heap} {outer : List Env} {L : Addr} {m mg mb : Str → Option Value} {loose : List Str} {mean : ExcName → Option Value} {s : Shared} {Q E : Value → Shared → Prop} {p : Program}
  {hdl : Option Value} {d u : Nat} {gs : Option (List Code)} {rest : List (Addr × Obj)} {ns : List (Str × NameKind)} {ig ic : Bool} {mo : List (Str × Const)} {gl bi : Addr} {cs : List (Str × Addr)} {qn : Str} {fo : Option Addr} {cdv : Value}
theorem nocom {x : Str} {b : Bool} {tx : Tok}
  (B : Below A₀ base outer h₀) (F : Fr h₀ L s.heap m) (X : (hd.heap_1 w.params).In h₀) (T : Top p loose mean mg mb h₀) (hdp : d < 900) (hun : u < 9000)
  (hx : x.length ≤ 100000) (N : News h₀ L s.heap rest)
  (hQ : ∀ h' t k, Fr h₀ L h' m → News h₀ L h' rest → Q (.str (S (cf b false x.cps.toList)) t) { s with heap := h', toks := k })
  : wpAny (model prog w) (ar none d (fenv ns ig ic mo gl cs qn fo cdv bi L :: outer) gs u) (call (.ref 740) [.str x tx, .bool b]) Q E s := by
  refine wpAny_call ?_
  k_enter
  (repeat' (first | (k_unfold; (try dsimp only)) | ((fail_if_success (with_reducible show wpAny _ _ (pyIter _) _ _ _)); walk1)))
  rename List.map Prod.fst _ = Txt.split _ _ => eW
  rename StrsAre _ _ => hS
  rename Fr _ _ _ _ => F1
  rename News _ _ _ (_ :: rest) => N1
  rename ∀ p ∈ rest, @LT.lt Nat _ _ _ => hlt
  rw [eW] at hS
  obtain ⟨m1, t0, F1, e0, e1⟩ := nc_gen F1 (by first | exact if_pos rfl | exact (if_neg (by decide +kernel)).trans (if_pos rfl)) (by simp only [nc_n1, nc_n2, nc_n3, if_false]; first | rfl | exact if_pos rfl | exact (if_neg (by decide +kernel)).trans (if_pos rfl))
  refine strs_loop (σ := NS) (fun _ => rest) (fun c => [(Str.ofString "plain", .str (S c.tx) c.tt), (Str.ofString "posix", .bool b)]) [] (fun pre c => c.tx = lnsOut b pre) ⟨[], t0⟩ rfl hS F1 N1 (fun p hp => Nat.ne_of_lt (hlt p hp)) ?_ rfl ?_ ?_
  · intro p hp
    simp only [List.mem_cons, List.not_mem_nil, or_false] at hp
    rcases hp with rfl | rfl <;> assumption
  · rintro ⟨tx, tt⟩ pre post n t u h tk own hns hoff htx F2 N2
    dsimp only at htx
    subst htx
    clear F1 N1 N F
    have hl := nc_len (b := b) hns hx
    have hn : n.length ≤ sizeLine := Nat.le_trans (part_short (x := x) (y := Str.ofString "
") (by rw [hns]; simp)) (Nat.le_trans hx (by decide +kernel))
    cases b with
    | true => k_steps
    | false => k_steps
  · rintro ⟨tx, tt⟩ u h tk htx F2 N2
    dsimp only at htx
    subst htx
    clear F1 N1 N F
    have e9 := cf_split b x
    rw [← (show Str.ofString "
" = ⟨#[10]⟩ from by decide +kernel)] at e9
    k_steps
    rw [e9]
    exact hQ _ _ _ (by assumption) (by assumption)
end
end Mine

local macro_rules | `(tactic| walk_at "execs nil") => `(tactic| (with_reducible refine wpAny_execs_nil ?_))
local macro_rules | `(tactic| walk_at "exec If") => `(tactic| ((try k_fold); with_reducible refine wpAny_If ?_))
local macro_rules | `(tactic| walk_at "ite") => `(tactic| first | with_reducible refine Mine.ite_t ?_ | with_reducible refine Mine.ite_f ?_)
local macro_rules | `(tactic| walk_at "execs cons") => `(tactic| ((try dsimp only); with_reducible refine wpAny_execs_cons ?_))
local macro_rules | `(tactic| walk_at "compareOp In str str") => `(tactic| (k_here; (with_reducible show wpAny _ _ (compareOp CmpOp.In (Value.str (Str.mk #[_]) _) _) _ _ _); (with_reducible refine' Mine.in_ch ?e ?_); (case e => first | with_reducible assumption | rfl); k_whole))
namespace Mine
def asc : Str := Str.ofString "abcdefghijklmnopqrstuvwxyzABCDEFGHIJKLMNOPQRSTUVWXYZ0123456789_"
def latin (c : Nat) : Bool := decide (192 ≤ c) && decide (c ≤ 255) && !(c == 215) && !(c == 247)
theorem wc_small : ∀ b : Bool, ∀ c : Fin 256, (WC b).cps.toList.contains c.val = (asc.cps.toList.contains c.val || (b && latin c.val)) := by decide +kernel
theorem wc_all : ∀ b : Bool, (WC b).cps.toList.all (· < 256) = true ∧ asc.cps.toList.all (· < 256) = true := by decide +kernel
theorem wc_eq (b : Bool) (c : Nat) : (WC b).cps.toList.contains c = (asc.cps.toList.contains c || (b && latin c)) := by
  by_cases h : c < 256
  · exact wc_small b ⟨c, h⟩
  · have h1 : (WC b).cps.toList.contains c = false := by
      rw [List.contains_eq_mem]
      refine decide_eq_false fun hm => h ?_
      simpa using List.all_eq_true.mp (wc_all b).1 c hm
    have h2 : asc.cps.toList.contains c = false := by
      rw [List.contains_eq_mem]
      refine decide_eq_false fun hm => h ?_
      simpa using List.all_eq_true.mp (wc_all b).2 c hm
    have h3 : latin c = false := by unfold latin; simp; omega
    rw [h1, h2, h3]; cases b <;> rfl
theorem isl1 {c : Nat} (h1 : (192 : Int) ≤ c) (h2 : (c : Int) ≤ 255) : (!([215, 247].any fun x => x == (c : Int))) = latin c := by
  have h3 : 192 ≤ c := by omega
  have h4 : c ≤ 255 := by omega
  have e1 : ((215 : Int) == (c : Int)) = (c == 215) := by
    rw [Bool.eq_iff_iff, beq_iff_eq, beq_iff_eq]; omega
  have e2 : ((247 : Int) == (c : Int)) = (c == 247) := by
    rw [Bool.eq_iff_iff, beq_iff_eq, beq_iff_eq]; omega
  unfold latin
  simp only [List.any_cons, List.any_nil, Bool.or_false, e1, e2, decide_eq_true h3, decide_eq_true h4, Bool.true_and, Bool.not_or]
theorem isl2 {c : Nat} (h2 : ¬ (c : Int) ≤ 255) : decide ((c : Int) ≤ 255) = latin c := by
  have h4 : ¬ c ≤ 255 := by omega
  unfold latin
  rw [decide_eq_false h4, decide_eq_false h2]; simp
theorem isl3 {c : Nat} (h2 : ¬ (192 : Int) ≤ c) : decide ((192 : Int) ≤ c) = latin c := by
  have h4 : ¬ 192 ≤ c := by omega
  unfold latin
  rw [decide_eq_false h4, decide_eq_false h2]; simp
section
variable {w : World} {A₀ : Around} {base h₀ : Heap} {outer : List Env} {L : Addr} {m mg mb : Str → Option Value} {loose : List Str} {mean : ExcName → Option Value} {s : Shared} {Q E : Value → Shared → Prop} {p : Program}
  {hdl : Option Value} {d u : Nat} {gs : Option (List Code)} {rest : List (Addr × Obj)} {ns : List (Str × NameKind)} {ig ic : Bool} {mo : List (Str × Const)} {gl bi : Addr} {cs : List (Str × Addr)} {qn : Str} {fo : Option Addr} {cdv : Value}
theorem isl {c : Nat} {b : Bool} {tk : Tok}
  (B : Below A₀ base outer h₀) (F : Fr h₀ L s.heap m) (X : (hd.heap_1 w.params).In h₀) (T : Top p loose mean mg mb h₀) (hdp : d < 900) (hun : u < 9000)
  (N : News h₀ L s.heap rest)
  (hQ : ∀ h' k, Fr h₀ L h' m → News h₀ L h' rest → Q (.bool ((WC b).cps.toList.contains c)) { s with heap := h', toks := k })
  : wpAny (model prog w) (ar hdl d (fenv ns ig ic mo gl cs qn fo cdv bi L :: outer) gs u) (call (.ref 747) [.str ⟨#[c]⟩ tk, .bool b]) Q E s := by
  rw [wc_eq] at hQ
  refine wpAny_call ?_
  k_enter
  cases ha : asc.cps.toList.contains c with
  | true =>
    have ha' : (Str.ofString "abcdefghijklmnopqrstuvwxyzABCDEFGHIJKLMNOPQRSTUVWXYZ0123456789_").cps.toList.contains c = true := ha
    rw [ha] at hQ
    k_steps
    exact hQ _ _ (by assumption) (by assumption)
  | false =>
    have ha' : (Str.ofString "abcdefghijklmnopqrstuvwxyzABCDEFGHIJKLMNOPQRSTUVWXYZ0123456789_").cps.toList.contains c = false := ha
    rw [ha] at hQ
    cases b with
    | false =>
      simp only [Bool.false_and, Bool.or_false] at hQ
      k_steps
      exact hQ _ _ (by assumption) (by assumption)
    | true =>
      simp only [Bool.true_and, Bool.false_or] at hQ
      k_steps
      · rw [isl1 (by omega) (by omega)]; exact hQ _ _ (by assumption) (fun q hq => (by with_reducible assumption : News h₀ L _ (_ :: rest)) q (.tail _ hq))
      · rw [isl2 (by omega)]; exact hQ _ _ (by assumption) (by assumption)
      · rw [isl3 (by omega)]; exact hQ _ _ (by assumption) (by assumption)
end
end Mine

namespace Mine
open LCg
theorem off3_map {I C D : Addr} : ∀ {l l' : List (Addr × Obj)}, l.map (·.1) = l'.map (·.1) → Off3 I C D l → Off3 I C D l'
  | [], [], _, _ => trivial
  | [], _ :: _, h, _ => by cases h
  | _ :: _, [], h, _ => by cases h
  | p :: r, q :: t, h, x => by
    simp only [List.map_cons, List.cons.injEq] at h
    refine ⟨?_, off3_map h.2 x.2⟩
    rw [← h.1]
    exact x.1
theorem off1_map {D : Addr} : ∀ {l l' : List (Addr × Obj)}, l.map (·.1) = l'.map (·.1) → Off1 D l → Off1 D l'
  | [], [], _, _ => trivial
  | [], _ :: _, h, _ => by cases h
  | _ :: _, [], h, _ => by cases h
  | p :: r, q :: t, h, x => by
    simp only [List.map_cons, List.cons.injEq] at h
    refine ⟨?_, off1_map h.2 x.2⟩
    rw [← h.1]
    exact x.1
section
variable {w : World} {A : Around} {h₀ : Heap} {L : Addr} {m : Str → Option Value} {env : Env} {elt : Expr} {x : Str} {scope : Scope} {cl : List (Str × Addr)} {s : Shared} {Fin : List Value → List (Addr × Obj) → Prop}
/-- the end of one turn of a comprehension with a state -/
def CsEnd {σ : Type} (Led : σ → List (Addr × Obj)) (P : σ → List Value → Prop) (h₀ : Heap) (L : Addr) (m : Str → Option Value) (s : Shared) (top : List (Addr × Obj)) (ys : List Value) (y : Value) (s₂ : Shared) : Prop :=
  ∃ (c' : σ) (h' : Heap) (tk' : Nat), s₂ = { s with heap := h', toks := tk' } ∧ Fr h₀ L h' m ∧ News h₀ L h' (top ++ Led c') ∧ P c' (ys ++ [y])
theorem comp_st {σ : Type} {n : Nat} {P0 : Nat → Value → Prop} (Led : σ → List (Addr × Obj)) (P : Nat → σ → List Value → Prop) (c₀ : σ) (hmap : ∀ c c', (Led c).map (·.1) = (Led c').map (·.1)) (hp : P 0 c₀ [])
    (turn : ∀ i c ys v I oI C oC D m₂ h tk (E' : Value → Shared → Prop), i < n → P i c ys → P0 i v → NsObj oC m₂ → m₂ x = some v → Fr h₀ L h m → News h₀ L h ((I, oI) :: (C, oC) :: (D, lst ys) :: Led c) → Off3 I C D (Led c) → ((@Ne Nat I C) ∧ (@Ne Nat I D) ∧ (@Ne Nat C D)) →
      wpAny (model prog w) A (eval elt (compEnvC scope cl C env)) (CsEnd Led (P (i + 1)) h₀ L m { s with heap := h, toks := tk } [(I, oI), (C, oC), (D, lst ys)] ys) E' { s with heap := h, toks := tk })
    (fin : ∀ c ys, P n c ys → Fin ys (Led c)) : CompRest prog w A h₀ L m env elt x scope cl s (fun _ => True) P0 Fin n 0 [] (Led c₀) := by
  have key : ∀ (j i : Nat) (ys : List Value) (c : σ), i + j = n → P i c ys → CompRest prog w A h₀ L m env elt x scope cl s (fun _ => True) P0 Fin j i ys (Led c) := by
    intro j
    induction j with
    | zero =>
      intro i ys c hi hy
      have e : i = n := by omega
      subst e
      exact CompRest.zero (fin c ys hy)
    | succ j ih =>
      intro i ys c hi hy
      refine CompRest.succ ?_
      intro v I oI C oC D m₂ h tk E' hv hC hx F N off ne
      refine wpAny_mono (turn i c ys v I oI C oC D m₂ h tk E' (by omega) hy hv hC hx F N off ne) (fun y s₂ hq => ?_) fun _ _ e => e
      obtain ⟨c', h', tk', e, F', N', hP'⟩ := hq
      exact ⟨h', tk', Led c', e, F', N', off3_map (hmap c c') off, trivial, ih (i + 1) _ c' (by omega) hP'⟩
  exact key n 0 [] c₀ (by omega) hp
end
theorem rep_flat (v : Value) : ∀ (n : Nat) (a : List Value), List.foldl (fun x1 x2 => x1 ++ x2) a.toArray (List.replicate n #[v]) = (a ++ List.replicate n v).toArray
  | 0, a => by simp
  | n + 1, a => by
    rw [List.replicate_succ, List.foldl_cons]
    have e : a.toArray ++ #[v] = (a ++ [v]).toArray := by simp
    rw [e, rep_flat v n]
    simp [List.replicate_succ]
theorem mul_one {w : World} {A : Around} {E : Value → Shared → Prop} {s : Shared} {h₀ : Heap} {L l : Addr} {m : Str → Option Value} {news : List (Addr × Obj)} {v : Value} {k : Nat} {x : Int} {u : Tok} {Q : Value → Shared → Prop}
    (F : Fr h₀ L s.heap m) (N : News h₀ L s.heap news) (hm : (l, listOf [v].toArray k) ∈ news) (hlo : -1000000 ≤ x) (hhi : x < 1000000)
    (h : ∀ D h', Fr h₀ L h' m → News h₀ L h' ((D, listOf (List.replicate x.toNat v).toArray 0) :: news) → (∀ p ∈ news, p.1 < D) → Q (.ref D) { s with heap := h' }) :
    wpAny (model prog w) A (binaryOp .Mult (.ref l) (.int x u)) Q E s := by
  refine mul_list F N (N.get hm) (by omega) (by omega) (by simp; omega) fun h' F' N' => ?_
  have e : List.foldl (fun x1 x2 => x1 ++ x2) #[] (List.replicate (if [v].toArray.isEmpty = true then 0 else x.toNat) [v].toArray) = (List.replicate x.toNat v).toArray := rep_flat v x.toNat []
  rw [e] at N'
  exact h _ h' F' N' fun p hp => Heap.lt_size (N p hp).1
theorem cat_two {w : World} {A : Around} {E : Value → Shared → Prop} {s : Shared} {h₀ : Heap} {L l b : Addr} {m : Str → Option Value} {news : List (Addr × Obj)} {vs ws : List Value} {k j : Nat} {Q : Value → Shared → Prop}
    (F : Fr h₀ L s.heap m) (N : News h₀ L s.heap news) (hm : (l, listOf vs.toArray k) ∈ news) (hb : (b, listOf ws.toArray j) ∈ news) (hsz : vs.length + ws.length ≤ 1000000)
    (h : ∀ D h', Fr h₀ L h' m → News h₀ L h' ((D, listOf (vs ++ ws).toArray 0) :: news) → (∀ p ∈ news, p.1 < D) → Q (.ref D) { s with heap := h' }) :
    wpAny (model prog w) A (binaryOp .Add (.ref l) (.ref b)) Q E s :=
  add_lists (hsz := Nat.le_trans hsz (by decide +kernel)) F N ⟨_, N.get hm, rfl, k, rfl⟩ ⟨_, N.get hb, rfl, j, rfl⟩ fun h' F' N' => h _ h' F' N' fun p hp => Heap.lt_size (N p hp).1
def datOf (b : Bool) (tok : List Nat) : Dat := if b && tok.isEmpty then .none else .str (S tok)
theorem rv_dat {b : Bool} {tok : List Nat} {v : Value} {l : List (Addr × Obj)} (h : RV b tok v) : DatIn l v (datOf b tok) := by
  unfold RV at h
  unfold datOf
  cases hc : (b && tok.isEmpty) with
  | true => rw [hc, if_pos rfl] at h; subst h; exact .none
  | false =>
    rw [hc] at h
    simp only [Bool.false_eq_true, if_false] at h ⊢
    obtain ⟨t, rfl⟩ := h
    exact .str _ _
theorem ev_dat {b : Bool} {v : Value} {l : List (Addr × Obj)} (h : EV b v) : DatIn l v (datOf b []) := by
  unfold EV at h
  unfold datOf
  cases b with
  | true => simp only [if_true] at h; subst h; exact .none
  | false =>
    simp only [Bool.false_eq_true, if_false] at h
    obtain ⟨t, rfl⟩ := h
    have e : (S [] : Str) = Str.ofString "" := S_nil.symm
    simp only [Bool.false_and, Bool.false_eq_true, if_false, e]
    exact .str _ _
theorem strs_dat {l : List (Addr × Obj)} : ∀ {vs : List Value} {ws : List Str}, StrsAre vs ws → DatAll l vs (ws.map Dat.str)
  | _, _, .nil => .nil
  | _, _, .cons _ _ r => .cons (.str _ _) (strs_dat r)
theorem rep_dat {l : List (Addr × Obj)} {v : Value} {d : Dat} (h : DatIn l v d) : ∀ n : Nat, DatAll l (List.replicate n v) (List.replicate n d)
  | 0 => .nil
  | n + 1 => by rw [List.replicate_succ, List.replicate_succ]; exact .cons h (rep_dat h n)
theorem dat_ok {b : Bool} {tok : List Nat} (h : ∀ c ∈ tok, c < 1114112) (n : Nat) : kqdOk n (datOf b tok) = true := by
  unfold datOf
  split
  · cases n <;> rfl
  · have e : PyData.strOk (S tok) = true := by
      unfold PyData.strOk
      rw [Array.all_eq_true']
      intro c hc
      have : c ∈ tok := by simpa [S] using hc
      simpa using h c this
    cases n <;> exact e
end Mine

namespace Mine
theorem S_length (x : List Nat) : (S x).length = x.length := by simp [S, Str.length]
structure GS where
  gv : List Value
  gn : Nat
  ov : List Value
  on : Nat
  bf : Bool
def g0 (W : Nat → Bool) (pre : List Int) : GF := gfold W ⟨[], [], false⟩ (pre.map Int.toNat)
def GInv (W : Nat → Bool) (pre : List Int) (c : GS) : Prop :=
  StrsAre c.gv ((g0 W pre).gi.map S) ∧ StrsAre c.ov ((g0 W pre).ov.map fun o => S [o]) ∧ c.bf = (g0 W pre).bf
theorem strs_snoc_inv {x : Str} : ∀ {ws : List Str} {vs : List Value}, StrsAre vs (ws ++ [x]) → ∃ us t, vs = us ++ [.str x t] ∧ StrsAre us ws
  | [], _, .cons _ t .nil => ⟨[], t, rfl, .nil⟩
  | w :: ws, _, .cons _ t r => by
    obtain ⟨us, t', rfl, h⟩ := strs_snoc_inv r
    exact ⟨.str w t :: us, t', rfl, .cons _ _ h⟩
theorem g0_snoc (W : Nat → Bool) (pre : List Int) (n : Nat) : g0 W (pre ++ [(n : Int)]) = gstep W (g0 W pre) n := by
  unfold g0
  rw [List.map_append, List.map_singleton, Int.toNat_natCast, gfold_snoc]
theorem gstep_len (W : Nat → Bool) (g : GF) (n : Nat) : (gstep W g n).gi.length ≤ g.gi.length + 1 ∧ (gstep W g n).ov.length ≤ g.ov.length + 1 := by
  unfold gstep
  split
  · split
    · simp <;> omega
    · simp
  · split
    · simp
    · split <;> simp
theorem gfold_len (W : Nat → Bool) : ∀ (l : List Nat) (g : GF), (gfold W g l).gi.length ≤ g.gi.length + l.length ∧ (gfold W g l).ov.length ≤ g.ov.length + l.length
  | [], _ => ⟨Nat.le_refl _, Nat.le_refl _⟩
  | c :: r, g => by
    have h1 := gfold_len W r (gstep W g c)
    have h2 := gstep_len W g c
    show (gfold W (gstep W g c) r).gi.length ≤ _ ∧ (gfold W (gstep W g c) r).ov.length ≤ _
    simp only [List.length_cons]
    omega
theorem ginv_len {W : Nat → Bool} {pre : List Int} {c : GS} (h : GInv W pre c) : c.gv.length ≤ pre.length ∧ c.ov.length ≤ pre.length := by
  obtain ⟨h1, h2, _⟩ := h
  have e1 := h1.length
  have e2 := h2.length
  have := gfold_len W (pre.map Int.toNat) ⟨[], [], false⟩
  unfold g0 at e1 e2
  simp only [List.length_map, List.length_nil, Nat.zero_add] at e1 e2 this
  omega
theorem gfold_tok (W : Nat → Bool) : ∀ (l : List Nat) (g : GF) (M : Nat), (∀ t ∈ g.gi, t.length ≤ M) → ∀ t ∈ (gfold W g l).gi, t.length ≤ M + l.length
  | [], _, _, h => h
  | c :: r, g, M, h => by
    have h1 : ∀ t ∈ (gstep W g c).gi, t.length ≤ M + 1 := by
      have hd : ∀ t ∈ g.gi.dropLast, t.length ≤ M := fun t ht => h t (List.dropLast_subset _ ht)
      have hl : (g.gi.getLast?.getD []).length ≤ M := by
        cases e : g.gi.getLast? with
        | none => simp
        | some a => exact h a (List.mem_of_getLast? e)
      have h0 : ∀ t ∈ g.gi, t.length ≤ M + 1 := fun t ht => Nat.le_succ_of_le (h t ht)
      unfold gstep
      split
      · split
        · intro t ht
          rcases List.mem_append.mp ht with ht | ht
          · exact Nat.le_succ_of_le (hd t ht)
          · rw [List.mem_singleton.mp ht, List.length_append]
            simpa using hl
        · intro t ht
          rcases List.mem_append.mp ht with ht | ht
          · exact h0 t ht
          · rw [List.mem_singleton.mp ht]; simp
      · split
        · exact h0
        · split
          · exact h0
          · intro t ht
            rcases List.mem_append.mp ht with ht | ht
            · exact h0 t ht
            · rw [List.mem_singleton.mp ht]; simp
    intro t ht
    have := gfold_tok W r (gstep W g c) (M + 1) h1 t ht
    simp only [List.length_cons]
    omega
theorem ginv_tt {W : Nat → Bool} {pre : List Int} {c : GS} (h : GInv W pre c) (hb : c.bf = true) : ∃ us l t, c.gv = us ++ [.str (S l) t] ∧ l.length ≤ pre.length ∧ ∀ (n : Nat) (t' : Tok) (gn : Nat), W n = true → GInv W (pre ++ [(n : Int)]) ⟨us ++ [.str (S (l ++ [n])) t'], gn, c.ov, c.on, true⟩ := by
  obtain ⟨h1, h2, h3⟩ := h
  have hbf : (g0 W pre).bf = true := by rw [← h3]; exact hb
  have hne : (g0 W pre).gi ≠ [] := gfold_bf W (pre.map Int.toNat) ⟨[], [], false⟩ (fun h => by cases h) hbf
  obtain ⟨gi, l, e⟩ : ∃ gi l, (g0 W pre).gi = gi ++ [l] := ⟨_, _, (List.dropLast_concat_getLast hne).symm⟩
  rw [e, List.map_append, List.map_singleton] at h1
  obtain ⟨us, t, e2, h4⟩ := strs_snoc_inv h1
  have hl : l.length ≤ pre.length := by
    have := gfold_tok W (pre.map Int.toNat) ⟨[], [], false⟩ 0 (by simp) l (by show l ∈ (g0 W pre).gi; rw [e]; simp)
    simpa using this
  refine ⟨us, l, t, e2, hl, fun n t' gn hW => ?_⟩
  unfold GInv
  rw [g0_snoc]
  have e3 : gstep W (g0 W pre) n = ⟨gi ++ [l ++ [n]], (g0 W pre).ov, true⟩ := by
    unfold gstep
    rw [hW, hbf, e]
    simp
  rw [e3]
  refine ⟨?_, h2, rfl⟩
  rw [List.map_append, List.map_singleton]
  exact h4.append' (.cons _ _ .nil)
theorem ginv_tf {W : Nat → Bool} {pre : List Int} {c : GS} {n : Nat} {t' : Tok} {gn : Nat} (h : GInv W pre c) (hb : c.bf = false) (hW : W n = true) : GInv W (pre ++ [(n : Int)]) ⟨c.gv ++ [.str ⟨#[n]⟩ t'], gn, c.ov, c.on, true⟩ := by
  obtain ⟨h1, h2, h3⟩ := h
  rw [hb] at h3
  unfold GInv
  rw [g0_snoc]
  have e3 : gstep W (g0 W pre) n = ⟨(g0 W pre).gi ++ [[n]], (g0 W pre).ov, true⟩ := by
    unfold gstep
    rw [hW, ← h3]
    simp
  rw [e3]
  refine ⟨?_, h2, rfl⟩
  rw [List.map_append, List.map_singleton]
  exact h1.append' (.cons _ _ .nil)
theorem ginv_ws {W : Nat → Bool} {pre : List Int} {c : GS} {n : Nat} (h : GInv W pre c) (hW : W n = false) (hws : isWs n = true) : GInv W (pre ++ [(n : Int)]) ⟨c.gv, c.gn, c.ov, c.on, false⟩ := by
  obtain ⟨h1, h2, h3⟩ := h
  unfold GInv
  rw [g0_snoc]
  have e3 : gstep W (g0 W pre) n = ⟨(g0 W pre).gi, (g0 W pre).ov, false⟩ := by
    unfold gstep
    rw [hW, hws]
    simp
  rw [e3]
  exact ⟨h1, h2, rfl⟩
theorem ginv_ov {W : Nat → Bool} {pre : List Int} {c : GS} {n : Nat} {t' : Tok} {on : Nat} (h : GInv W pre c) (hb : c.bf = true) (hW : W n = false) (hws : isWs n = false) : GInv W (pre ++ [(n : Int)]) ⟨c.gv, c.gn, c.ov ++ [.str ⟨#[n]⟩ t'], on, false⟩ := by
  obtain ⟨h1, h2, h3⟩ := h
  rw [hb] at h3
  unfold GInv
  rw [g0_snoc]
  have e3 : gstep W (g0 W pre) n = ⟨(g0 W pre).gi, (g0 W pre).ov ++ [n], false⟩ := by
    unfold gstep
    rw [hW, hws, ← h3]
    simp
  rw [e3]
  refine ⟨h1, ?_, rfl⟩
  rw [List.map_append, List.map_singleton]
  exact h2.append' (.cons _ _ .nil)
theorem ginv_gv {W : Nat → Bool} {pre : List Int} {c : GS} {n : Nat} {t' : Tok} {gn : Nat} (h : GInv W pre c) (hb : c.bf = false) (hW : W n = false) (hws : isWs n = false) : GInv W (pre ++ [(n : Int)]) ⟨c.gv ++ [.str ⟨#[n]⟩ t'], gn, c.ov, c.on, false⟩ := by
  obtain ⟨h1, h2, h3⟩ := h
  rw [hb] at h3
  unfold GInv
  rw [g0_snoc]
  have e3 : gstep W (g0 W pre) n = ⟨(g0 W pre).gi ++ [[n]], (g0 W pre).ov, false⟩ := by
    unfold gstep
    rw [hW, hws, ← h3]
    simp
  rw [e3]
  refine ⟨?_, h2, rfl⟩
  rw [List.map_append, List.map_singleton]
  exact h1.append' (.cons _ _ .nil)
abbrev gsLed (oa ga : Addr) (R : List (Addr × Obj)) (c : GS) : List (Addr × Obj) := (oa, listOf c.ov.toArray c.on) :: (ga, listOf c.gv.toArray c.gn) :: R
abbrev gsPs (oa ga : Addr) (x : List Nat) (xt : Tok) (b : Bool) (c : GS) : List (Str × Value) := [(Str.ofString "before", .bool c.bf), (Str.ofString "over", .ref oa), (Str.ofString "given", .ref ga), (Str.ofString "text", .str (S x) xt), (Str.ofString "posix", .bool b)]
theorem gs_end {g h h2 : Heap} {L : Addr} {s : Shared} {tk tk2 : Nat} {m1 m2 : Str → Option Value} {W : Nat → Bool} {b bf' : Bool} {n : Nat} {x : List Nat} {xt : Tok} {own R N0 : List (Addr × Obj)} {pre : List Int} {oa ga : Addr} {ov' gv' : List Value} {ova gva : Array Value} {on' gn' : Nat} {ad : List Addr}
  (F : Fr g L h2 m2) (N : News g L h2 N0) (hN : ∀ p ∈ ((oa, listOf ova on') :: (ga, listOf gva gn') :: R) ++ own, p ∈ N0) (eo : ova = ov'.toArray) (eg : gva = gv'.toArray)
  (h0 : m2 (Str.ofString "before") = some (.bool bf')) (h1 : m2 (Str.ofString "over") = some (.ref oa)) (h3 : m2 (Str.ofString "given") = some (.ref ga)) (h4 : m2 (Str.ofString "text") = some (.str (S x) xt)) (h5 : m2 (Str.ofString "posix") = some (.bool b))
  (hr : ∀ z, z ≠ Str.ofString "sign" → z ≠ Str.ofString "before" → z ≠ Str.ofString "over" → z ≠ Str.ofString "given" → z ≠ Str.ofString "text" → z ≠ Str.ofString "posix" → z ≠ Str.ofString "letter" → m2 z = m1 z)
  (had : ad = oa :: ga :: R.map (·.1))
  (hP : GInv W (pre ++ [(n : Int)]) ⟨gv', gn', ov', on', bf'⟩) :
  InvEndN g L (KstS (σ := GS) (gsLed oa ga R) (gsPs oa ga x xt b) (fun _ => True) (Str.ofString "sign") [Str.ofString "letter"] m1 (GInv W) (pre ++ [(n : Int)]))
    own ad { s with heap := h, toks := tk } { s with heap := h2, toks := tk2 } := by
  subst eo eg
  refine ⟨_, _, _, _, (oa, listOf ov'.toArray on') :: (ga, listOf gv'.toArray gn') :: R, rfl, F, N, fun p hp => hN p (List.mem_append_left _ hp), fun p hp => hN p (List.mem_append_right _ hp), had.symm, ⟨gv', gn', ov', on', bf'⟩, rfl, trivial, ?_, ?_, hP⟩
  · intro p hp
    simp only [List.mem_cons, List.not_mem_nil, or_false] at hp
    rcases hp with rfl | rfl | rfl | rfl | rfl <;> assumption
  · intro z hx hp hs
    refine hr z hx (hp _ (.head _)) (hp _ (.tail _ (.head _))) (hp _ (.tail _ (.tail _ (.head _)))) (hp _ (.tail _ (.tail _ (.tail _ (.head _))))) (hp _ (.tail _ (.tail _ (.tail _ (.tail _ (.head _)))))) ?_
    intro e
    subst e
    simp at hs
theorem gne_before_over : (Str.ofString "before" = Str.ofString "over") = False := eq_false (by decide +kernel)
theorem gne_before_given : (Str.ofString "before" = Str.ofString "given") = False := eq_false (by decide +kernel)
theorem gne_before_text : (Str.ofString "before" = Str.ofString "text") = False := eq_false (by decide +kernel)
theorem gne_before_posix : (Str.ofString "before" = Str.ofString "posix") = False := eq_false (by decide +kernel)
theorem gne_before_letter : (Str.ofString "before" = Str.ofString "letter") = False := eq_false (by decide +kernel)
theorem gne_before_sign : (Str.ofString "before" = Str.ofString "sign") = False := eq_false (by decide +kernel)
theorem gne_over_before : (Str.ofString "over" = Str.ofString "before") = False := eq_false (by decide +kernel)
theorem gne_over_given : (Str.ofString "over" = Str.ofString "given") = False := eq_false (by decide +kernel)
theorem gne_over_text : (Str.ofString "over" = Str.ofString "text") = False := eq_false (by decide +kernel)
theorem gne_over_posix : (Str.ofString "over" = Str.ofString "posix") = False := eq_false (by decide +kernel)
theorem gne_over_letter : (Str.ofString "over" = Str.ofString "letter") = False := eq_false (by decide +kernel)
theorem gne_over_sign : (Str.ofString "over" = Str.ofString "sign") = False := eq_false (by decide +kernel)
theorem gne_given_before : (Str.ofString "given" = Str.ofString "before") = False := eq_false (by decide +kernel)
theorem gne_given_over : (Str.ofString "given" = Str.ofString "over") = False := eq_false (by decide +kernel)
theorem gne_given_text : (Str.ofString "given" = Str.ofString "text") = False := eq_false (by decide +kernel)
theorem gne_given_posix : (Str.ofString "given" = Str.ofString "posix") = False := eq_false (by decide +kernel)
theorem gne_given_letter : (Str.ofString "given" = Str.ofString "letter") = False := eq_false (by decide +kernel)
theorem gne_given_sign : (Str.ofString "given" = Str.ofString "sign") = False := eq_false (by decide +kernel)
theorem gne_text_before : (Str.ofString "text" = Str.ofString "before") = False := eq_false (by decide +kernel)
theorem gne_text_over : (Str.ofString "text" = Str.ofString "over") = False := eq_false (by decide +kernel)
theorem gne_text_given : (Str.ofString "text" = Str.ofString "given") = False := eq_false (by decide +kernel)
theorem gne_text_posix : (Str.ofString "text" = Str.ofString "posix") = False := eq_false (by decide +kernel)
theorem gne_text_letter : (Str.ofString "text" = Str.ofString "letter") = False := eq_false (by decide +kernel)
theorem gne_text_sign : (Str.ofString "text" = Str.ofString "sign") = False := eq_false (by decide +kernel)
theorem gne_posix_before : (Str.ofString "posix" = Str.ofString "before") = False := eq_false (by decide +kernel)
theorem gne_posix_over : (Str.ofString "posix" = Str.ofString "over") = False := eq_false (by decide +kernel)
theorem gne_posix_given : (Str.ofString "posix" = Str.ofString "given") = False := eq_false (by decide +kernel)
theorem gne_posix_text : (Str.ofString "posix" = Str.ofString "text") = False := eq_false (by decide +kernel)
theorem gne_posix_letter : (Str.ofString "posix" = Str.ofString "letter") = False := eq_false (by decide +kernel)
theorem gne_posix_sign : (Str.ofString "posix" = Str.ofString "sign") = False := eq_false (by decide +kernel)
theorem gne_letter_before : (Str.ofString "letter" = Str.ofString "before") = False := eq_false (by decide +kernel)
theorem gne_letter_over : (Str.ofString "letter" = Str.ofString "over") = False := eq_false (by decide +kernel)
theorem gne_letter_given : (Str.ofString "letter" = Str.ofString "given") = False := eq_false (by decide +kernel)
theorem gne_letter_text : (Str.ofString "letter" = Str.ofString "text") = False := eq_false (by decide +kernel)
theorem gne_letter_posix : (Str.ofString "letter" = Str.ofString "posix") = False := eq_false (by decide +kernel)
theorem gne_letter_sign : (Str.ofString "letter" = Str.ofString "sign") = False := eq_false (by decide +kernel)
theorem gne_sign_before : (Str.ofString "sign" = Str.ofString "before") = False := eq_false (by decide +kernel)
theorem gne_sign_over : (Str.ofString "sign" = Str.ofString "over") = False := eq_false (by decide +kernel)
theorem gne_sign_given : (Str.ofString "sign" = Str.ofString "given") = False := eq_false (by decide +kernel)
theorem gne_sign_text : (Str.ofString "sign" = Str.ofString "text") = False := eq_false (by decide +kernel)
theorem gne_sign_posix : (Str.ofString "sign" = Str.ofString "posix") = False := eq_false (by decide +kernel)
theorem gne_sign_letter : (Str.ofString "sign" = Str.ofString "letter") = False := eq_false (by decide +kernel)
end Mine

namespace Mine
abbrev q0 (x : List Nat) : RS := ⟨.white, x, 1, [], []⟩
def LxI (x : List Nat) (b : Bool) (i : Nat) (c : LS) (ys : List Value) : Prop :=
  SV (riter b (fun c => (WC b).cps.toList.contains c) i (q0 x)).st c.sv ∧ c.tok = S [] ∧ c.ln = (riter b (fun c => (WC b).cps.toList.contains c) i (q0 x)).ln ∧ (S x).cps.toList.drop c.pos = (riter b (fun c => (WC b).cps.toList.contains c) i (q0 x)).rem ∧
  DatAll [] ys ((riter b (fun c => (WC b).cps.toList.contains c) i (q0 x)).toks.map (datOf b)) ∧ StrsAre c.pbs ((riter b (fun c => (WC b).cps.toList.contains c) i (q0 x)).ovs.reverse.map fun o => S [o]) ∧
  (riter b (fun c => (WC b).cps.toList.contains c) i (q0 x)).st ≠ .word ∧ ((riter b (fun c => (WC b).cps.toList.contains c) i (q0 x)).st = .fin → (riter b (fun c => (WC b).cps.toList.contains c) i (q0 x)).rem = []) ∧ (riter b (fun c => (WC b).cps.toList.contains c) i (q0 x)).ovs.length ≤ i
theorem wok (b : Bool) : WOk (fun c => (WC b).cps.toList.contains c) := ⟨by
  intro c h
  have h1 : ∀ b : Bool, ∀ c ∈ (Str.ofString " \t\x0d\n").cps.toList, (WC b).cps.toList.contains c = false := by decide +kernel
  refine h1 b c ?_
  unfold isWs at h
  simpa using h⟩
theorem lx0 {x : List Nat} {b : Bool} {ts tl tt t1 : Tok} : LxI x b 0 ⟨.str (Str.ofString " ") ts, 1, tl, Str.ofString "", tt, 0, t1, [], 0⟩ [] :=
  ⟨⟨_, rfl⟩, S_nil, rfl, by simp [S, riter], .nil, .nil, by simp [riter], by simp [riter], Nat.le_refl _⟩
theorem lx_step {x : List Nat} {b : Bool} {i : Nat} {c : LS} {ys : List Value} {v sv' : Value} {tl' tt' t2' : Tok} {tk' : Str} {pos' : Nat} {pbs' : List Value} {pn' : Int} (h : LxI x b i c ys)
  (a1 : tk' = S []) (a2 : SV (rt b (fun c => (WC b).cps.toList.contains c) (riter b (fun c => (WC b).cps.toList.contains c) i (q0 x)).st [] (riter b (fun c => (WC b).cps.toList.contains c) i (q0 x)).rem (riter b (fun c => (WC b).cps.toList.contains c) i (q0 x)).ln).st sv')
  (a3 : (S x).cps.toList.drop pos' = (rt b (fun c => (WC b).cps.toList.contains c) (riter b (fun c => (WC b).cps.toList.contains c) i (q0 x)).st [] (riter b (fun c => (WC b).cps.toList.contains c) i (q0 x)).rem (riter b (fun c => (WC b).cps.toList.contains c) i (q0 x)).ln).rem)
  (a4 : RV b (rt b (fun c => (WC b).cps.toList.contains c) (riter b (fun c => (WC b).cps.toList.contains c) i (q0 x)).st [] (riter b (fun c => (WC b).cps.toList.contains c) i (q0 x)).rem (riter b (fun c => (WC b).cps.toList.contains c) i (q0 x)).ln).tok v)
  (a5 : OV (rt b (fun c => (WC b).cps.toList.contains c) (riter b (fun c => (WC b).cps.toList.contains c) i (q0 x)).st [] (riter b (fun c => (WC b).cps.toList.contains c) i (q0 x)).rem (riter b (fun c => (WC b).cps.toList.contains c) i (q0 x)).ln).over pbs' c.pbs) :
  LxI x b (i + 1) ⟨sv', (rt b (fun c => (WC b).cps.toList.contains c) (riter b (fun c => (WC b).cps.toList.contains c) i (q0 x)).st [] (riter b (fun c => (WC b).cps.toList.contains c) i (q0 x)).rem (riter b (fun c => (WC b).cps.toList.contains c) i (q0 x)).ln).ln, tl', tk', tt', pos', t2', pbs', pn'⟩ (ys ++ [v]) := by
  obtain ⟨h1, h2, h3, h4, h5, h6, h7, h8, h9⟩ := h
  unfold LxI
  rw [riter_succ]
  generalize riter b (fun c => (WC b).cps.toList.contains c) i (q0 x) = q at *
  unfold rstep
  have hst : (rt b (fun c => (WC b).cps.toList.contains c) q.st [] q.rem q.ln).st ≠ .word ∧ ((rt b (fun c => (WC b).cps.toList.contains c) q.st [] q.rem q.ln).st = .fin → (rt b (fun c => (WC b).cps.toList.contains c) q.st [] q.rem q.ln).rem = []) := by
    cases hq : q.st with
    | fin => rw [rt]; exact ⟨by simp, fun _ => h8 hq⟩
    | word => exact absurd hq h7
    | white =>
      have := (rt_white (b := b) (wok b) [] [] q.rem.length q.rem q.ln (Nat.le_refl _)).st
      rcases this with e | ⟨e, e'⟩
      · rw [e]; exact ⟨by simp, fun h => by cases h⟩
      · rw [e]; exact ⟨by simp, fun _ => e'⟩
  generalize rt b (fun c => (WC b).cps.toList.contains c) q.st [] q.rem q.ln = r at *
  dsimp only
  refine ⟨a2, a1, rfl, a3, ?_, ?_, hst.1, hst.2, ?_⟩
  · rw [List.map_append]
    exact h5.append (.cons (rv_dat a4) .nil)
  · cases ho : r.over with
    | none =>
      rw [ho] at a5
      have : pbs' = c.pbs := a5
      subst this
      simpa using h6
    | some o =>
      rw [ho] at a5
      obtain ⟨t, rfl⟩ := a5
      simp only [Option.toList, List.reverse_append, List.reverse_cons, List.reverse_nil, List.nil_append, List.cons_append, List.map_cons]
      exact .cons _ _ h6
  · rw [List.length_append]
    have : r.over.toList.length ≤ 1 := by cases r.over <;> simp
    omega
theorem lx_pbs {x : List Nat} {b : Bool} {i : Nat} {c : LS} {ys : List Value} (h : LxI x b i c ys) : c.pbs.length ≤ i := by
  obtain ⟨_, _, _, _, _, h6, _, _, h9⟩ := h
  have := h6.length
  simp only [List.length_map, List.length_reverse] at this
  omega
/-- after enough turns: given and over of the law, and the lexer is at the end -/
theorem lx_done {x : List Nat} {b : Bool} {n : Nat} {c : LS} {ys : List Value} {g : GS} (h : LxI x b n c ys) (hn : x.length + 1 ≤ n) (hg : GInv (fun c => (WC b).cps.toList.contains c) (KStt.codes (S (cf b false (S x).cps.toList))) g) :
  ∃ ds, DatAll [] g.gv ds ∧ DatAll [] ys (ds ++ List.replicate (n - g.gv.length) (datOf b [])) ∧ g.gv.length ≤ n ∧ (∃ os : List Nat, os = (g0 (fun c => (WC b).cps.toList.contains c) (KStt.codes (S (cf b false (S x).cps.toList)))).ov ∧ StrsAre c.pbs (os.reverse.map fun o => S [o]) ∧ StrsAre g.ov (os.map fun o => S [o]) ∧ os.length ≤ n) ∧
    (∃ G : List (List Nat), ds = G.map (fun g => Dat.str (S g)) ∧ G = (g0 (fun c => (WC b).cps.toList.contains c) (KStt.codes (S (cf b false (S x).cps.toList)))).gi) ∧
    SV .fin c.sv ∧ (S x).cps.toList.drop c.pos = [] ∧ c.tok = S [] := by
  obtain ⟨h1, h2, h3, h4, h5, h6, h7, h8, h9⟩ := h
  obtain ⟨g1, g2, _⟩ := hg
  obtain ⟨G, O, r1, r2, r3, r4, r5, r6, r7⟩ := riter_all (b := b) (wok b) n (q0 x) [] [] rfl hn
  have hcodes : (KStt.codes (S (cf b false (S x).cps.toList))).map Int.toNat = cf b false x := by
    unfold KStt.codes
    rw [List.map_map]
    simp [S, Function.comp_def]
  have hgo : (g0 (fun c => (WC b).cps.toList.contains c) (KStt.codes (S (cf b false (S x).cps.toList)))).out = (G, O) := by
    unfold g0
    rw [hcodes, r7]
    simp
  have hgi : (g0 (fun c => (WC b).cps.toList.contains c) (KStt.codes (S (cf b false (S x).cps.toList)))).gi = G := congrArg Prod.fst hgo
  have hov : (g0 (fun c => (WC b).cps.toList.contains c) (KStt.codes (S (cf b false (S x).cps.toList)))).ov = O := congrArg Prod.snd hgo
  rw [hgi] at g1 ⊢
  rw [hov] at g2 ⊢
  have hlen : g.gv.length = G.length := by simpa using g1.length
  rw [r3] at h1
  rw [r4] at h4
  rw [r5] at h5
  rw [r6] at h6 h9
  simp only [List.nil_append] at h5 h6 h9
  have hG : G.map (datOf b) = G.map fun g => Dat.str (S g) := by
    refine List.map_congr_left fun t ht => ?_
    unfold datOf
    have : t.isEmpty = false := by
      have := r1 t ht
      cases t with
      | nil => exact absurd rfl this
      | cons => rfl
    rw [this]; simp
  refine ⟨G.map fun g => Dat.str (S g), ?_, ?_, by omega, ⟨O, rfl, h6, g2, h9⟩, ⟨G, rfl, rfl⟩, h1, h4, h2⟩
  · have := strs_dat (l := []) g1
    rw [List.map_map] at this
    exact this
  · rw [List.map_append, List.map_replicate, hG] at h5
    rw [hlen]
    exact h5
theorem gfold_all {W : Nat → Bool} {P : Nat → Prop} : ∀ (l : List Nat) (g : GF), (∀ c ∈ l, P c) → (∀ t ∈ g.gi, ∀ c ∈ t, P c) → (∀ o ∈ g.ov, P o) → (∀ t ∈ (gfold W g l).gi, ∀ c ∈ t, P c) ∧ (∀ o ∈ (gfold W g l).ov, P o)
  | [], _, _, h2, h3 => ⟨h2, h3⟩
  | c :: r, g, h1, h2, h3 => by
    have hc := h1 c (.head _)
    have hs : (∀ t ∈ g.gi ++ [[c]], ∀ a ∈ t, P a) := by
      intro t ht a ha
      rcases List.mem_append.mp ht with ht | ht
      · exact h2 t ht a ha
      · rw [List.mem_singleton.mp ht] at ha
        rw [List.mem_singleton.mp ha]; exact hc
    have hl : (∀ t ∈ g.gi.dropLast ++ [g.gi.getLast?.getD [] ++ [c]], ∀ a ∈ t, P a) := by
      intro t ht a ha
      rcases List.mem_append.mp ht with ht | ht
      · exact h2 t (List.dropLast_subset _ ht) a ha
      · rw [List.mem_singleton.mp ht] at ha
        rcases List.mem_append.mp ha with ha | ha
        · cases e : g.gi.getLast? with
          | none => rw [e] at ha; simp at ha
          | some q => rw [e] at ha; exact h2 q (List.mem_of_getLast? e) a ha
        · rw [List.mem_singleton.mp ha]; exact hc
    have ho : ∀ o ∈ g.ov ++ [c], P o := by
      intro o hm
      rcases List.mem_append.mp hm with hm | hm
      · exact h3 o hm
      · rw [List.mem_singleton.mp hm]; exact hc
    refine gfold_all r (gstep W g c) (fun a ha => h1 a (.tail _ ha)) ?_ ?_
    · unfold gstep
      split
      · split
        · exact hl
        · exact hs
      · split
        · exact h2
        · split
          · exact h2
          · exact hs
    · unfold gstep
      split
      · split
        · exact h3
        · exact h3
      · split
        · exact h3
        · split
          · exact ho
          · exact h3
theorem g0_good {b : Bool} {x : List Nat} {W : Nat → Bool} (h : ∀ c ∈ x, Good c) : (∀ t ∈ (g0 W (KStt.codes (S (cf b false (S x).cps.toList)))).gi, ∀ c ∈ t, c < 1114112) ∧ (∀ o ∈ (g0 W (KStt.codes (S (cf b false (S x).cps.toList)))).ov, o < 1114112) := by
  have hcodes : (KStt.codes (S (cf b false (S x).cps.toList))).map Int.toNat = cf b false x := by
    unfold KStt.codes
    rw [List.map_map]
    simp [S, Function.comp_def]
  unfold g0
  rw [hcodes]
  exact gfold_all (P := fun c => c < 1114112) _ _ (cf_all b (by decide) false x fun c hc => (h c hc).2) (by simp) (by simp)
theorem news_rot {h₀ h : Heap} {L : Addr} {l1 l2 : List (Addr × Obj)} (N : News h₀ L h (l1 ++ l2)) : News h₀ L h (l2 ++ l1) := fun p hp => N p (List.mem_append.mpr (List.mem_append.mp hp).symm)
end Mine

namespace Mine
section
variable {w : World} {A₀ : Around} {base h₀ : Heap} {outer : List Env} {L : Addr} {m mg mb : Str → Option Value} {loose : List Str} {mean : ExcName → Option Value} {s : Shared} {Q E : Value → Shared → Prop} {p : Program}
  {hdl : Option Value} {d u : Nat} {gs : Option (List Code)} {rest : List (Addr × Obj)} {ns : List (Str × NameKind)} {ig ic : Bool} {mo : List (Str × Const)} {gl bi : Addr} {cs : List (Str × Addr)} {qn : Str} {fo : Option Addr} {cdv : Value}
abbrev lxLed (P : Params) (kt : IoT) (T1 : LxT) (x : List Nat) (b : Bool) (ev f : Value) (io iod pb lx dx fs : Addr) (fn : Int) (c : LS) : List (Addr × Obj) :=
  [(io, instObj 587 iod), (iod, ioD P kt (S x) c.pos c.tp), (pb, dqO c.pbs c.pn), (lx, instObj 722 dx), (dx, lexD P T1 b false ev (Str.ofString "#") (WC b) pb fs io f c.sv c.ln c.tl c.tok c.tt), (fs, dqO [] fn)]
theorem all_cons {a : Addr} {p : Addr × Obj} {l : List (Addr × Obj)} (h : @Ne Nat p.1 a) (hl : ∀ q ∈ l, q.1 ≠ a) : ∀ q ∈ p :: l, q.1 ≠ a := by
  intro q hq
  rcases List.mem_cons.mp hq with rfl | hq
  · exact h
  · exact hl q hq
theorem lx_read {lx dx io iod pb fs : Addr} {x : List Nat} {kt : IoT} {T1 : LxT} {b : Bool} {ev f : Value} {fn : Int} {i : Nat} {c : LS} {ys : List Value}
  (B : Below A₀ base outer h₀) (F : Fr h₀ L s.heap m) (X : (hd.heap_1 w.params).In h₀) (T : Top p loose mean mg mb h₀) (hdp : d < 900) (hun : u < 9000)
  (hx : x.length ≤ 400) (hxg : ∀ c ∈ x, Good c) (h1 : @LT.lt Nat _ dx lx) (h2 : @LT.lt Nat _ lx iod) (h3 : @LT.lt Nat _ iod io) (h4 : @LT.lt Nat _ io pb) (h5 : @LT.lt Nat _ pb fs)
  (hr1 : ∀ p ∈ rest, p.1 ≠ iod) (hr2 : ∀ p ∈ rest, p.1 ≠ dx) (hr3 : ∀ p ∈ rest, p.1 ≠ pb) (hP : LxI x b i c ys) (hi : i ≤ 800000)
  (N : News h₀ L s.heap (lxLed w.params kt T1 x b ev f io iod pb lx dx fs fn c ++ rest))
  (hQ : ∀ h' v c' k, Fr h₀ L h' m → News h₀ L h' (lxLed w.params kt T1 x b ev f io iod pb lx dx fs fn c' ++ rest) → LxI x b (i + 1) c' (ys ++ [v]) → Q v { s with heap := h', toks := k })
  : wpAny (model prog w) (ar hdl d (fenv ns ig ic mo gl cs qn fo cdv bi L :: outer) gs u) (call (.ref 690) [.ref lx]) Q E s := by
  have hpl := lx_pbs hP
  obtain ⟨sv, ln, tlx, tok, ttx, pos, tp, pbs, pn⟩ := c
  obtain ⟨p1, p2, p3, p4, p5, p6, p7, p8, p9⟩ := id hP
  dsimp only at p1 p2 p3 p4 hpl
  subst p3
  refine rtok B F X T hdp hun (by rw [S_length]; omega) h1 h2 h3 h4 (all_cons ?_ hr1) (all_cons ?_ hr2) (all_cons ?_ hr3) p1 p4 p7 p8 ?_ (by show pbs.length ≤ 900000; omega) p2 N ?_
  · exact Nat.ne_of_gt (Nat.lt_trans h3 (Nat.lt_trans h4 h5))
  · exact Nat.ne_of_gt (Nat.lt_trans h1 (Nat.lt_trans h2 (Nat.lt_trans h3 (Nat.lt_trans h4 h5))))
  · exact Nat.ne_of_gt h5
  · intro a ha
    rw [← p4] at ha
    have := List.mem_of_mem_drop ha
    exact (hxg a (by simpa [S] using this)).1
  · intro h' v' sv' tl' tk' tt' pos' t2' pbs' pn' k' F' N' e1' e2' e3' e4' e5'
    exact hQ h' v' ⟨sv', _, tl', tk', tt', pos', t2', pbs', pn'⟩ k' F' N' (lx_step hP e1' e2' e3' e4' e5')
/-- the lexer at the text's end -/
def LxF (x : List Nat) (c : LS) : Prop := SV .fin c.sv ∧ c.tok = S [] ∧ (S x).cps.toList.drop c.pos = []
theorem rt_fin {b : Bool} {W : Nat → Bool} {ln : Int} : rt b W .fin [] [] ln = ⟨[], .fin, [], ln, none⟩ := by rw [rt]
theorem lx_last {lx dx io iod pb fs : Addr} {x : List Nat} {kt : IoT} {T1 : LxT} {b : Bool} {ev f : Value} {fn : Int} {c : LS}
  (B : Below A₀ base outer h₀) (F : Fr h₀ L s.heap m) (X : (hd.heap_1 w.params).In h₀) (T : Top p loose mean mg mb h₀) (hdp : d < 900) (hun : u < 9000)
  (hx : x.length ≤ 400) (h1 : @LT.lt Nat _ dx lx) (h2 : @LT.lt Nat _ lx iod) (h3 : @LT.lt Nat _ iod io) (h4 : @LT.lt Nat _ io pb) (h5 : @LT.lt Nat _ pb fs)
  (hr1 : ∀ p ∈ rest, p.1 ≠ iod) (hr2 : ∀ p ∈ rest, p.1 ≠ dx) (hr3 : ∀ p ∈ rest, p.1 ≠ pb) (hP : LxF x c) (hi : c.pbs.length ≤ 800000)
  (N : News h₀ L s.heap (lxLed w.params kt T1 x b ev f io iod pb lx dx fs fn c ++ rest))
  (hQ : ∀ h' v c' k, Fr h₀ L h' m → News h₀ L h' (lxLed w.params kt T1 x b ev f io iod pb lx dx fs fn c' ++ rest) → LxF x c' → c'.pbs = c.pbs → RV b [] v → Q v { s with heap := h', toks := k })
  : wpAny (model prog w) (ar hdl d (fenv ns ig ic mo gl cs qn fo cdv bi L :: outer) gs u) (call (.ref 690) [.ref lx]) Q E s := by
  obtain ⟨sv, ln, tlx, tok, ttx, pos, tp, pbs, pn⟩ := c
  obtain ⟨p1, p2, p3⟩ := hP
  dsimp only at p1 p2 p3 hi
  refine rtok B F X T hdp hun (by rw [S_length]; omega) h1 h2 h3 h4 (all_cons ?_ hr1) (all_cons ?_ hr2) (all_cons ?_ hr3) p1 p3 (by simp) (fun _ => rfl) (by simp) (by show pbs.length ≤ 900000; omega) p2 N ?_
  · exact Nat.ne_of_gt (Nat.lt_trans h3 (Nat.lt_trans h4 h5))
  · exact Nat.ne_of_gt (Nat.lt_trans h1 (Nat.lt_trans h2 (Nat.lt_trans h3 (Nat.lt_trans h4 h5))))
  · exact Nat.ne_of_gt h5
  · rw [rt_fin]
    intro h' v' sv' tl' tk' tt' pos' t2' pbs' pn' k' F' N' e1' e2' e3' e4' e5'
    exact hQ h' v' ⟨sv', _, tl', tk', tt', pos', t2', pbs', pn'⟩ k' F' N' ⟨e2', e1', e3'⟩ e5' e4'
theorem lx_get {lx dx io iod pb fs : Addr} {x : List Nat} {kt : IoT} {T1 : LxT} {b : Bool} {ev f : Value} {fn : Int} {c : LS}
  (B : Below A₀ base outer h₀) (F : Fr h₀ L s.heap m) (X : (hd.heap_1 w.params).In h₀) (T : Top p loose mean mg mb h₀) (hdp : d < 800) (hun : u < 8000)
  (hx : x.length ≤ 400) (h1 : @LT.lt Nat _ dx lx) (h2 : @LT.lt Nat _ lx iod) (h3 : @LT.lt Nat _ iod io) (h4 : @LT.lt Nat _ io pb) (h5 : @LT.lt Nat _ pb fs)
  (hr1 : ∀ p ∈ rest, p.1 ≠ iod) (hr2 : ∀ p ∈ rest, p.1 ≠ dx) (hr3 : ∀ p ∈ rest, p.1 ≠ pb) (hP : LxF x c) (hi : c.pbs.length ≤ 800000) (hev : EV b ev)
  (N : News h₀ L s.heap (lxLed w.params kt T1 x b ev f io iod pb lx dx fs fn c ++ rest))
  (hQ : ∀ h' v c' k, Fr h₀ L h' m → News h₀ L h' (lxLed w.params kt T1 x b ev f io iod pb lx dx fs fn c' ++ rest) → LxF x c' → ((∃ r, c.pbs = v :: r ∧ c'.pbs = r) ∨ (c.pbs = [] ∧ c'.pbs = [] ∧ v = ev)) → Q v { s with heap := h', toks := k })
  : wpAny (model prog w) (ar hdl d (fenv ns ig ic mo gl cs qn fo cdv bi L :: outer) gs u) (call (.ref 683) [.ref lx]) Q E s := by
  obtain ⟨sv, ln, tlx, tok, ttx, pos, tp, pbs, pn⟩ := c
  obtain ⟨p1, p2, p3⟩ := hP
  dsimp only at p1 p2 p3 hi
  cases pbs with
  | nil =>
    refine get_tok0 B F X T hdp hun (by rw [S_length]; omega) h1 h2 h3 h4 h5 (all_cons ?_ hr1) (all_cons ?_ hr2) (all_cons ?_ hr3) p1 p3 (by simp) (fun _ => rfl) (by simp) p2 hev N ?_
    · exact Nat.ne_of_gt (Nat.lt_trans h3 (Nat.lt_trans h4 h5))
    · exact Nat.ne_of_gt (Nat.lt_trans h1 (Nat.lt_trans h2 (Nat.lt_trans h3 (Nat.lt_trans h4 h5))))
    · exact Nat.ne_of_gt h5
    · rw [rt_fin]
      intro h' v' sv' tl' tk' tt' pos' t2' pbs' pn' k' F' N' e1' e2' e3' e4' e5'
      exact hQ h' v' ⟨sv', _, tl', tk', tt', pos', t2', pbs', pn'⟩ k' F' N' ⟨e2', e1', e3'⟩ (.inr ⟨rfl, e5', by simpa [GV] using e4'⟩)
  | cons v r =>
    have N' : News h₀ L s.heap ((pb, dqO (v :: r) pn) :: (lx, instObj 722 dx) :: (dx, lexD w.params T1 b false ev (Str.ofString "#") (WC b) pb fs io f sv ln tlx tok ttx) :: ([(fs, dqO [] fn), (io, instObj 587 iod), (iod, ioD w.params kt (S x) pos tp)] ++ rest)) := by
      intro p hp
      refine N p ?_
      simp only [List.mem_cons, List.mem_append, List.not_mem_nil, or_false, false_or] at hp ⊢
      rcases hp with h | h | h | (h | h | h) | h <;> simp [h]
    refine get_tok1 B F X T (by omega) (by omega) h1 (Nat.lt_trans h2 (Nat.lt_trans h3 h4)) ?_ (by simp at hi; omega) N' ?_
    · exact all_cons (Nat.ne_of_gt h5) (all_cons (Nat.ne_of_lt h4) (all_cons (Nat.ne_of_lt (Nat.lt_trans h3 h4)) hr3))
    · intro h' k F' N2
      refine hQ h' v ⟨sv, ln, tlx, tok, ttx, pos, tp, r, pn + 1⟩ k F' ?_ ⟨p1, p2, p3⟩ (.inl ⟨r, rfl, rfl⟩)
      intro p hp
      refine N2 p ?_
      simp only [List.mem_cons, List.mem_append, List.not_mem_nil, or_false, false_or] at hp ⊢
      rcases hp with (h | h | h | h | h | h) | h <;> simp [h]
theorem lx_push {lx dx io iod pb fs : Addr} {x : List Nat} {kt : IoT} {T1 : LxT} {b : Bool} {ev f v : Value} {fn : Int} {c : LS}
  (B : Below A₀ base outer h₀) (F : Fr h₀ L s.heap m) (X : (hd.heap_1 w.params).In h₀) (T : Top p loose mean mg mb h₀) (hdp : d < 900) (hun : u < 9000)
  (h1 : @LT.lt Nat _ dx lx) (h2 : @LT.lt Nat _ lx iod) (h3 : @LT.lt Nat _ iod io) (h4 : @LT.lt Nat _ io pb) (h5 : @LT.lt Nat _ pb fs)
  (hr3 : ∀ p ∈ rest, p.1 ≠ pb) (hi : c.pbs.length ≤ 800000)
  (N : News h₀ L s.heap (lxLed w.params kt T1 x b ev f io iod pb lx dx fs fn c ++ rest))
  (hQ : ∀ h' k, Fr h₀ L h' m → News h₀ L h' (lxLed w.params kt T1 x b ev f io iod pb lx dx fs fn ⟨c.sv, c.ln, c.tl, c.tok, c.tt, c.pos, c.tp, v :: c.pbs, c.pn + 1⟩ ++ rest) → Q .none { s with heap := h', toks := k })
  : wpAny (model prog w) (ar hdl d (fenv ns ig ic mo gl cs qn fo cdv bi L :: outer) gs u) (call (.ref 661) [.ref lx, v]) Q E s := by
  obtain ⟨sv, ln, tlx, tok, ttx, pos, tp, pbs, pn⟩ := c
  dsimp only at hi
  have N' : News h₀ L s.heap ((pb, dqO pbs pn) :: (lx, instObj 722 dx) :: (dx, lexD w.params T1 b false ev (Str.ofString "#") (WC b) pb fs io f sv ln tlx tok ttx) :: ([(fs, dqO [] fn), (io, instObj 587 iod), (iod, ioD w.params kt (S x) pos tp)] ++ rest)) := by
    intro p hp
    refine N p ?_
    simp only [List.mem_cons, List.mem_append, List.not_mem_nil, or_false, false_or] at hp ⊢
    rcases hp with h | h | h | (h | h | h) | h <;> simp [h]
  refine push_tok B F X T hdp hun h1 (Nat.lt_trans h2 (Nat.lt_trans h3 h4)) ?_ (by omega) N' ?_
  · exact all_cons (Nat.ne_of_gt h5) (all_cons (Nat.ne_of_lt h4) (all_cons (Nat.ne_of_lt (Nat.lt_trans h3 h4)) hr3))
  · intro h' k F' N2
    refine hQ h' k F' ?_
    intro p hp
    refine N2 p ?_
    simp only [List.mem_cons, List.mem_append, List.not_mem_nil, or_false, false_or] at hp ⊢
    rcases hp with (h | h | h | h | h | h) | h <;> simp [h]
end
end Mine

namespace Mine
section
variable {w : World} {A₀ : Around} {base h₀ : Heap} {outer : List Env} {L : Addr} {m mg mb : Str → Option Value} {loose : List Str} {mean : ExcName → Option Value} {s : Shared} {Q E : Value → Shared → Prop} {p : Program}
  {hdl : Option Value} {d u : Nat} {gs : Option (List Code)} {rest : List (Addr × Obj)} {ns : List (Str × NameKind)} {ig ic : Bool} {mo : List (Str × Const)} {gl bi : Addr} {cs : List (Str × Addr)} {qn : Str} {fo : Option Addr} {cdv : Value}
theorem news_r3 {h₀ h : Heap} {L : Addr} {a b d : Addr × Obj} {A R : List (Addr × Obj)} (N : News h₀ L h (a :: b :: d :: (A ++ R))) : News h₀ L h (A ++ (R ++ [a, b, d])) := by
  intro p hp
  refine N p ?_
  simp only [List.mem_append, List.mem_cons, List.not_mem_nil, or_false] at hp ⊢
  rcases hp with h | h | h | h | h <;> simp [h]
theorem news_l3 {h₀ h : Heap} {L : Addr} {a b d : Addr × Obj} {A R : List (Addr × Obj)} (N : News h₀ L h (A ++ (R ++ [a, b, d]))) : News h₀ L h ([a, b, d] ++ (A ++ R)) := by
  intro p hp
  refine N p ?_
  simp only [List.mem_append, List.mem_cons, List.not_mem_nil, or_false] at hp ⊢
  rcases hp with (h | h | h) | h | h <;> simp [h]
theorem new_few {w : World} {A : Around} {E : Value → Shared → Prop} {s : Shared} {h₀ : Heap} {L : Addr} {m : Str → Option Value} {news : List (Addr × Obj)} {vs : List Value} {Q : Value → Shared → Prop} (F : Fr h₀ L s.heap m) (N : News h₀ L s.heap news) (hv : vs.length ≤ 100)
    (h : ∀ l h', Fr h₀ L h' m → News h₀ L h' ((l, listOf vs.toArray 0) :: news) → (∀ p ∈ news, p.1 < l) → Q (.ref l) { s with heap := h' }) : wpAny (model prog w) A (newList vs) Q E s :=
  newList_K (hsz := Nat.le_trans hv (by decide +kernel)) F N h
theorem len_few {w : World} {A : Around} {E : Value → Shared → Prop} {s : Shared} {h₀ : Heap} {L l : Addr} {news : List (Addr × Obj)} {vs : List Value} {k : Nat} {Q : Value → Shared → Prop} (N : News h₀ L s.heap news) (hm : (l, listOf vs.toArray k) ∈ news) (hv : vs.length ≤ 1000000)
    (h : Q (.int vs.length (s.toks + 1)) { s with toks := s.toks + 1 + 1 }) : wpAny (model prog w) A (call (.builtin "len") [.ref l]) Q E s :=
  call_len_list ⟨_, N.get hm, rfl, k, rfl⟩ (by simp; omega) (by simpa using h)
section
variable {w : World} {A : Around} {E : Value → Shared → Prop} {s : Shared} {h₀ : Heap} {L a b : Addr} {news : List (Addr × Obj)} {oa ob : Obj} {xs ys : List Value} {ka kb : Nat} {ds es : List Dat} {Q : Value → Shared → Prop}
theorem ne_same (N : News h₀ L s.heap news) (ma : (a, oa) ∈ news) (ca : oa.cls = .type "list") (da : oa.data = .seq xs.toArray ka) (Da : DatAll [] xs ds)
    (mb : (b, ob) ∈ news) (cb : ob.cls = .type "list") (db : ob.data = .seq ys.toArray kb) (Db : DatAll [] ys es)
    (ha : ∀ d ∈ ds, kqdOk 8 d = true) (hu : A.units + 64 < cLine) (e : es = ds) (h : Q (.bool false) s) : wpAny (model prog w) A (compareOp .NotEq (.ref a) (.ref b)) Q E s := by
  subst e
  refine kqd_ne N ma ca da Da (fun p hp => nomatch hp) mb cb db Db (fun p hp => nomatch hp) ha ha hu ?_
  simpa using h
theorem eq_same (N : News h₀ L s.heap news) (ma : (a, oa) ∈ news) (ca : oa.cls = .type "list") (da : oa.data = .seq xs.toArray ka) (Da : DatAll [] xs ds)
    (mb : (b, ob) ∈ news) (cb : ob.cls = .type "list") (db : ob.data = .seq ys.toArray kb) (Db : DatAll [] ys es)
    (ha : ∀ d ∈ ds, kqdOk 8 d = true) (hu : A.units + 64 < cLine) (e : es = ds) (h : Q (.bool true) s) : wpAny (model prog w) A (compareOp .Eq (.ref a) (.ref b)) Q E s := by
  subst e
  refine kqd_eq N ma ca da Da (fun p hp => nomatch hp) mb cb db Db (fun p hp => nomatch hp) ha ha hu ?_
  simpa using h
end
theorem off_t3 {I C D2 a : Addr} {oI oC o : Obj} {R : List (Addr × Obj)} (hR : ∀ p ∈ R, p.1 ≠ a) (h : a ≠ I ∧ a ≠ C ∧ a ≠ D2) : ∀ p ∈ R ++ [(I, oI), (C, oC), (D2, o)], p.1 ≠ a := by
  intro p hp
  rcases List.mem_append.mp hp with hp | hp
  · exact hR p hp
  · simp only [List.mem_cons, List.not_mem_nil, or_false] at hp
    rcases hp with rfl | rfl | rfl
    · exact Ne.symm h.1
    · exact Ne.symm h.2.1
    · exact Ne.symm h.2.2
theorem all4 {a p1 p2 p3 p4 : Addr} {q1 q2 q3 q4 : Obj} (h : @LT.lt Nat _ p1 a ∧ @LT.lt Nat _ p2 a ∧ @LT.lt Nat _ p3 a ∧ @LT.lt Nat _ p4 a) : ∀ p ∈ [(p1, q1), (p2, q2), (p3, q3), (p4, q4)], p.1 ≠ a :=
  all_cons (Nat.ne_of_lt h.1) (all_cons (Nat.ne_of_lt h.2.1) (all_cons (Nat.ne_of_lt h.2.2.1) (all_cons (Nat.ne_of_lt h.2.2.2) (fun _ h => nomatch h))))
def MxI (x : List Nat) (T : List Value) (ev : Value) (i : Nat) (c : LS) (ys : List Value) : Prop := LxF x c ∧ c.pbs = T.drop i ∧ ys = T.take i ++ List.replicate (i - T.length) ev
theorem mx0 {x : List Nat} {T : List Value} {ev : Value} {c : LS} (h : LxF x c) (e : c.pbs = T) : MxI x T ev 0 c [] := ⟨h, e, by simp⟩
theorem mx_step {x : List Nat} {T : List Value} {ev v : Value} {i : Nat} {c c' : LS} {ys : List Value} (h : MxI x T ev i c ys) (hF : LxF x c') (hc : (∃ r, c.pbs = v :: r ∧ c'.pbs = r) ∨ (c.pbs = [] ∧ c'.pbs = [] ∧ v = ev)) : MxI x T ev (i + 1) c' (ys ++ [v]) := by
  obtain ⟨h1, h2, h3⟩ := h
  refine ⟨hF, ?_, ?_⟩
  · rcases hc with ⟨r, e1, e2⟩ | ⟨e1, e2, _⟩
    · rw [e2, ← List.drop_drop, ← h2, e1]; rfl
    · rw [e2, ← List.drop_drop, ← h2, e1]; rfl
  · rw [h3]
    rcases hc with ⟨r, e1, e2⟩ | ⟨e1, _, rfl⟩
    · rw [e1] at h2
      have hlt : i < T.length := by
        have := congrArg List.length h2
        simp at this
        omega
      have hv : T[i] = v := by
        rw [List.drop_eq_getElem_cons hlt] at h2
        exact (List.cons.inj h2).1.symm
      have e4 : i - T.length = 0 := by omega
      have e5 : i + 1 - T.length = 0 := by omega
      rw [e4, e5, List.take_succ_eq_append_getElem hlt, hv]
      simp
    · rw [e1] at h2
      have hle : T.length ≤ i := by
        have := congrArg List.length h2
        simp at this
        omega
      have e5 : i + 1 - T.length = (i - T.length) + 1 := by omega
      rw [e5, List.take_of_length_le hle, List.take_of_length_le (by omega), List.replicate_succ']
      simp
theorem mx_pbs {x : List Nat} {T : List Value} {ev : Value} {i : Nat} {c : LS} {ys : List Value} (h : MxI x T ev i c ys) : c.pbs.length ≤ T.length := by
  rw [h.2.1]; simp
theorem mx_done {x : List Nat} {T : List Value} {ev : Value} {n : Nat} {c : LS} {ys : List Value} (h : MxI x T ev n c ys) (hn : n = T.length + 2) : ys = T ++ [ev, ev] := by
  rw [h.2.2, hn, List.take_of_length_le (by omega)]
  have : T.length + 2 - T.length = 2 := by omega
  rw [this]; rfl
theorem strs_rev {vs : List Value} {ws : List Str} (h : StrsAre vs ws) : StrsAre vs.reverse ws.reverse := by
  induction h with
  | nil => exact .nil
  | cons x t _ ih =>
    rw [List.reverse_cons, List.reverse_cons]
    exact ih.append' (.cons _ _ .nil)
theorem ne_end {w : World} {A : Around} {E : Value → Shared → Prop} {s : Shared} {Q : Value → Shared → Prop} {b : Bool} {v ev : Value} (hR : RV b [] v) (hE : EV b ev) (h : Q (.bool false) s) : wpAny (model prog w) A (compareOp .NotEq v ev) Q E s := by
  unfold RV at hR
  unfold EV at hE
  cases b with
  | true =>
    simp only [if_true] at hE
    subst hE
    simp only [List.isEmpty_nil, Bool.and_true, if_true] at hR
    subst hR
    exact PySem.EqNone.ne_none_none h
  | false =>
    simp only [Bool.false_eq_true, if_false, Bool.false_and] at hE hR
    obtain ⟨t, rfl⟩ := hR
    obtain ⟨t, rfl⟩ := hE
    rw [S_nil]
    refine P.ne_str ?_
    simpa using h
theorem good_ok {t : List Nat} (h : ∀ c ∈ t, c < 1114112) (n : Nat) : kqdOk n (Dat.str (S t)) = true := by
  have := dat_ok (b := false) h n
  simpa [datOf] using this
end
end Mine

local macro_rules | `(tactic| walk_at "execs nil") => `(tactic| (with_reducible refine wpAny_execs_nil ?_))
local macro_rules | `(tactic| walk_at "exec If") => `(tactic| ((try k_fold); with_reducible refine wpAny_If ?_))
local macro_rules | `(tactic| walk_at "ite") => `(tactic| first | with_reducible refine Mine.ite_t ?_ | with_reducible refine Mine.ite_f ?_)
local macro_rules | `(tactic| walk_at "execs cons") => `(tactic| ((try dsimp only); with_reducible refine wpAny_execs_cons ?_))
local macro_rules | `(tactic| walk_at "exec For Name Call cons nil") => `(tactic| (k_here; (rename Fr _ _ _ _ => lF'); (with_reducible refine For_invVF lF' ?k1 ?k2 ?_ ?k3 ?k4); (case k1 => exact rfl); (case k2 => exact rfl); (case k3 => exact fun _ => rfl); (case k4 => passes_own); k_whole))
local macro_rules | `(tactic| walk_at "callWith ref") => `(tactic| (k_here; first
  | ((with_reducible show wpAny _ _ (callWith _ _ _ (backTo _ (starEach [] _)) []) _ _ _); row_timed "R1c" (refine' callWith_K0 ?k1 ?k2 ?_); row_timed "R1k1" (case k1 => exact Frag.In.keeps (by with_reducible assumption) (Fr.keep (by assumption))); row_timed "R1k2" (case k2 => k_is); k_whole; (try dsimp only [List.nil_append, List.cons_append, List.append_nil]))
  | (row_timed "R2c" (refine' callWith_K ?k1 ?k2 ?_); row_timed "R2k1" (case k1 => k_asm); row_timed "R2k2" (case k2 => k_is); k_whole)))
local macro_rules | `(tactic| walk_at "call ref") => `(tactic| (k_here; (with_reducible show wpAny _ _ (call (Value.ref 733) _) _ _ _); k_dflt (refine' Mine.lawtext ?k1 ?k2 ?k3 ?k4 ?k5 ?k6 ?k7 ?k8 ?k9 ?_; (case k9 => k_asm); (case k1 => k_asm); (case k2 => k_asm); (case k3 => k_asm); (case k4 => k_asm); (case k5 => k_room); (case k6 => k_units); (case k7 => exact .cons _ _ (by assumption)); (case k8 => (simp only [List.length_cons] at *; omega))); intro h' x' t' k' F' N' hx' hl'; (try dsimp only)))
namespace Mine
theorem tn2 (n : Nat) : ((n : Int) + 2 - 0).toNat = n + 2 := by omega
def LwMid (g : Heap) (L c : Addr) (oc : Obj) (s : Shared) (s' : Shared) : Prop :=
  ∃ h tk D vs nums nn m', s' = { s with heap := h, toks := tk } ∧ Fr g L h m' ∧ News g L h [(D, listOf (vs : List Value).toArray nn), (c, oc)] ∧ IntsAre vs nums ∧ nums ≠ [] ∧ nums.length ≤ 40 ∧ m' (Str.ofString "numbers") = some (.ref D) ∧ @Ne Nat c D
theorem lw_mid {g h : Heap} {L c D : Addr} {oc : Obj} {s : Shared} {tk nn : Nat} {vs : List Value} {nums : List Int} {m' : Str → Option Value} {l : List (Addr × Obj)} (F : Fr g L h m') (N : News g L h l) (hi : IntsAre vs nums) (h1 : nums ≠ []) (h2 : nums.length ≤ 40)
  (h3 : m' (Str.ofString "numbers") = some (.ref D)) (h4 : @Ne Nat c D) (hl : ∀ p ∈ [(D, listOf vs.toArray nn), (c, oc)], p ∈ l) : LwMid g L c oc s { s with heap := h, toks := tk } :=
  ⟨h, tk, D, vs, nums, nn, m', rfl, F, fun p hp => N p (hl p hp), hi, h1, h2, h3, h4⟩
theorem lw_if {w : World} {A : Around} {E : Value → Shared → Prop} {env : Env} {st : Stmt} {rest : List Stmt} {Q : Flow → Shared → Prop} {g : Heap} {L c : Addr} {oc : Obj} {s : Shared} {m : Str → Option Value} {a1 a2 : Addr × Obj}
    (F : Fr g L s.heap m) (N : News g L s.heap [a1, a2, (c, oc)])
    (h1 : wpAny (model prog w) A (exec st env) (fun f s' => match f with | .next => LwMid g L c oc s s' | f => Q f s') E s)
    (h2 : ∀ h tk D vs nums nn (m' : Str → Option Value), Fr g L h (fun y => if y = Str.ofString "numbers" then some (.ref D) else m' y) → News g L h [(D, listOf (vs : List Value).toArray nn), (c, oc)] → IntsAre vs nums → nums ≠ [] → nums.length ≤ 40 → @Ne Nat c D →
      wpAny (model prog w) A (execs rest env) Q E { s with heap := h, toks := tk }) : wpAny (model prog w) A (execs (st :: rest) env) Q E s :=
  execs_mid (LwMid g L c oc s) h1 (by
    rintro s' ⟨h, tk, D, vs, nums, nn, m', rfl, F', N', a, b, c, d, e⟩
    refine h2 h tk D vs nums nn m' ?_ N' a b c e
    have ee : (fun y => if y = Str.ofString "numbers" then some (.ref D) else m' y) = m' := by
      funext y
      by_cases hy : y = Str.ofString "numbers"
      · rw [if_pos hy, hy, d]
      · rw [if_neg hy]
    rw [ee]
    exact F')
theorem gs_get {w : World} {A : Around} {E : Value → Shared → Prop} {Q : Value → Shared → Prop} {s : Shared} {h₀ : Heap} {L ga : Addr} {news : List (Addr × Obj)} {us : List Value} {v : Value} {gn : Nat} {u : Tok} (N : News h₀ L s.heap news) (hm : (ga, listOf (us ++ [v]).toArray gn) ∈ news) (h : Q v s) :
    wpAny (model prog w) A (getItem (.ref ga) (.int (-1) u)) Q E s :=
  wpAny_getItem_list_neg ⟨_, N.get hm, rfl, gn, rfl⟩ (by decide) (by simp; omega) (by decide) (by
    have e : ((-1 : Int) + ((us ++ [v]).toArray.size : Int)).toNat = us.length := by simp; omega
    rw [e]; simp) h
theorem set_last (v v' : Value) : ∀ us : List Value, ki_setL (us ++ [v]) us.length v' = some (us ++ [v'])
  | [] => rfl
  | x :: r => by
    show (match ki_setL (r ++ [v]) r.length v' with | some q => some (x :: q) | none => none) = _
    rw [set_last v v' r]
    rfl
theorem gs_set {w : World} {A : Around} {E : Value → Shared → Prop} {Q : Unit → Shared → Prop} {s : Shared} {h₀ : Heap} {L ga : Addr} {m : Str → Option Value} {news news' : List (Addr × Obj)} {us : List Value} {v v' : Value} {gn : Nat} {u : Tok} (F : Fr h₀ L s.heap m) (N : News h₀ L s.heap news)
    (U : Upd ga (listOf (us ++ [v]).toArray gn) (listOf (us ++ [v']).toArray gn) news news') (h : ∀ h', Fr h₀ L h' m → News h₀ L h' news' → Q () { s with heap := h' }) : wpAny (model prog w) A (setItem (.ref ga) (.int (-1) u) v') Q E s :=
  ki_setNeg F N (by decide) (by decide) (j := us.length) (by
    have h1 := PySem.seqIndex_neg (k := -1) (n := (us ++ [v]).toArray.size) (by decide) (by simp; omega)
    rw [h1]
    congr 1
    simp; omega) (by simpa using set_last v v' us) U h
theorem end_val {w : World} {A : Around} {E : Value → Shared → Prop} {Q : Value → Shared → Prop} {s : Shared} {env : Env} {e : Expr} {b : Bool} (h1 : wpAny (model prog w) A (eval e env) (fun v s' => EV b v ∧ ∃ k, s' = { s with toks := k }) E s) (h2 : ∀ v k, EV b v → Q v { s with toks := k }) :
    wpAny (model prog w) A (eval e env) Q E s := wpAny_mono h1 (fun v s' h => by obtain ⟨a, k, rfl⟩ := h; exact h2 v k a) fun _ _ x => x
theorem kst_intro {g h : Heap} {L : Addr} {m : Str → Option Value} {ps : List (Str × Value)} (F : Fr g L h m) (hp : ∀ p ∈ ps, m p.1 = some p.2) : ∃ m', Fr g L h (kstB m' ps) := by
  refine ⟨m, ?_⟩
  have e : kstB m ps = m := by
    funext z
    exact kstB_eq hp fun _ => rfl
  rw [e]
  exact F
theorem gne_x : ¬ Str.ofString "over" = Str.ofString "end" ∧ ¬ Str.ofString "given" = Str.ofString "end" ∧ ¬ Str.ofString "text" = Str.ofString "end" ∧ ¬ Str.ofString "posix" = Str.ofString "end" := by decide +kernel
theorem sl_gen {g h : Heap} {L oa ga : Addr} {m2 : Str → Option Value} {b : Bool} {x : List Nat} {t : Tok}
  (F : Fr g L h (fun y => if y = Str.ofString "before" then some (.bool false) else if y = Str.ofString "over" then some (.ref oa) else if y = Str.ofString "given" then some (.ref ga) else if y = Str.ofString "text" then some (.str (S x) t) else if y = Str.ofString "posix" then some (.bool b) else m2 y))
  {D c : Addr} {oc : Obj} {va : Array Value} {nn : Nat} (N : News g L h [(oa, listOf #[] 0), (ga, listOf #[] 0), (D, listOf va nn), (c, oc)]) (h1 : @LT.lt Nat _ ga oa ∧ @LT.lt Nat _ D oa ∧ @LT.lt Nat _ c oa) (h2 : @LT.lt Nat _ D ga ∧ @LT.lt Nat _ c ga) :
  ∃ m' oa ga va t, News g L h [(oa, listOf #[] 0), (ga, listOf #[] 0), (D, listOf va nn), (c, oc)] ∧ @LT.lt Nat _ ga oa ∧ @LT.lt Nat _ D oa ∧ @LT.lt Nat _ c oa ∧ @LT.lt Nat _ D ga ∧ @LT.lt Nat _ c ga ∧ Fr g L h m' ∧ m' (Str.ofString "before") = some (.bool false) ∧ m' (Str.ofString "over") = some (.ref oa) ∧ m' (Str.ofString "given") = some (.ref ga) ∧ m' (Str.ofString "text") = some (.str (S x) t) ∧ m' (Str.ofString "posix") = some (.bool b) := by
  have a1 : ¬ Str.ofString "over" = Str.ofString "before" := by decide +kernel
  have a2 : ¬ Str.ofString "given" = Str.ofString "before" := by decide +kernel
  have a3 : ¬ Str.ofString "given" = Str.ofString "over" := by decide +kernel
  have a4 : ¬ Str.ofString "text" = Str.ofString "before" := by decide +kernel
  have a5 : ¬ Str.ofString "text" = Str.ofString "over" := by decide +kernel
  have a6 : ¬ Str.ofString "text" = Str.ofString "given" := by decide +kernel
  have a7 : ¬ Str.ofString "posix" = Str.ofString "before" := by decide +kernel
  have a8 : ¬ Str.ofString "posix" = Str.ofString "over" := by decide +kernel
  have a9 : ¬ Str.ofString "posix" = Str.ofString "given" := by decide +kernel
  have a10 : ¬ Str.ofString "posix" = Str.ofString "text" := by decide +kernel
  refine ⟨_, oa, ga, va, t, N, h1.1, h1.2.1, h1.2.2, h2.1, h2.2, F, if_pos rfl, ?_, ?_, ?_, ?_⟩ <;> simp only [a1, a2, a3, a4, a5, a6, a7, a8, a9, a10, if_false, if_true]
end Mine
namespace Mine
section
variable {w : World} {A₀ : Around} {base h₀ : Heap} {outer : List Env} {L : Addr} {m mg mb : Str → Option Value} {loose : List Str} {mean : ExcName → Option Value} {s : Shared} {Q E : Value → Shared → Prop} {p : Program}
  {hdl : Option Value} {d u : Nat} {gs : Option (List Code)} {rest : List (Addr × Obj)} {ns : List (Str × NameKind)} {ig ic : Bool} {mo : List (Str × Const)} {gl bi : Addr} {cs : List (Str × Addr)} {qn : Str} {fo : Option Addr} {cdv : Value}
theorem isl_v {c : Nat} {b v : Bool} {tk : Tok} (hv : (WC b).cps.toList.contains c = v)
  (B : Below A₀ base outer h₀) (F : Fr h₀ L s.heap m) (X : (hd.heap_1 w.params).In h₀) (T : Top p loose mean mg mb h₀) (hdp : d < 900) (hun : u < 9000)
  (N : News h₀ L s.heap rest)
  (hQ : ∀ h' k, Fr h₀ L h' m → News h₀ L h' rest → Q (.bool v) { s with heap := h', toks := k })
  : wpAny (model prog w) (ar hdl d (fenv ns ig ic mo gl cs qn fo cdv bi L :: outer) gs u) (call (.ref 747) [.str ⟨#[c]⟩ tk, .bool b]) Q E s := by
  subst hv
  exact isl B F X T hdp hun N hQ
end
end Mine
local macro_rules | `(tactic| walk_at "call ref") => `(tactic| (k_here; (with_reducible show wpAny _ _ (call (Value.ref 747) _) _ _ _); k_dflt (refine' Mine.isl_v ?hv ?k1 ?k2 ?k3 ?k4 ?k5 ?k6 ?k8 ?_; (case k8 => k_asm); (case k1 => k_asm); (case k2 => k_asm); (case k3 => k_asm); (case k4 => k_asm); (case k5 => k_room); (case k6 => k_units); (case hv => with_reducible assumption)); intro h' k' F' N'; (try dsimp only)))
local macro_rules | `(tactic| walk_at "inplaceOp Add str str") => `(tactic| (k_here; (try dsimp only); (with_reducible show wpAny _ _ (inplaceOp Operator.Add (Value.str (Mine.S _) _) (Value.str (Str.mk #[_]) _)) _ _ _); (with_reducible refine' Mine.add_S ?l ?_); (case l => omega); intro t' k'; (try dsimp only)))
local macro_rules | `(tactic| walk_at "binaryOp Mult ref int") => `(tactic| (k_here; (try dsimp only); (with_reducible show wpAny _ _ (binaryOp Operator.Mult (Value.ref _) (Value.int _ _)) _ _ _); k_dflt (refine' Mine.mul_one ?F ?N ?m ?a ?b ?_; (case F => k_asm); (case N => k_asm); (case m => k_mem); (case a => omega); (case b => omega)); intro D' h' F' N' l1))
local macro_rules | `(tactic| walk_at "binaryOp Add ref ref") => `(tactic| (k_here; (try dsimp only); (with_reducible show wpAny _ _ (binaryOp Operator.Add (Value.ref _) (Value.ref _)) _ _ _); k_dflt (refine' Mine.cat_two ?F ?N ?m ?n ?z ?_; (case F => k_asm); (case N => k_asm); (case m => k_mem); (case n => k_mem); (case z => (simp only [List.length_replicate, List.length_append, List.length_cons, List.length_nil, List.length_reverse]; omega))); intro D' h' F' N' l1))
local macro_rules | `(tactic| walk_at "compareOp NotIn str str") => `(tactic| (k_here; (with_reducible show wpAny _ _ (compareOp CmpOp.NotIn (Value.str (Str.mk #[_]) _) _) _ _ _); (with_reducible refine' Mine.notin_ch ?e ?_); (case e => first | with_reducible assumption | rfl); k_whole))
namespace Mine
theorem free {goal_ : Prop} (a b c d e f g h i j k l m n o q r s t u v w x y z A B C D E F G H I J K L M N O P Q R S T U V W X Y Z e1 e2 e3 e4 e5 e6 e7 e8 e9 e10 k1 k2 k3 k4 k5 k6 k7 k8 k9 k10 k11 k12 k13 k14 k15 h1 h2 h3 h4 h5 h6 hr hp hi hv hz sz sub hQ hE hP hC hx ka kb : True) (rest_ : goal_) : goal_ := rest_
end Mine
theorem Mine.law_all.tw2337115943774737595 : True := trivial
theorem Mine.law_all.tw15753174923161979217 : True := trivial
theorem Mine.law_all.tw7416931893851735294 : True := trivial
theorem Mine.law_all.tw6250623550151289363 : True := trivial
theorem Mine.law_all.tw11575233253633470811 : True := trivial
theorem Mine.law_all.tw10969439180591476309 : True := trivial
theorem Mine.law_all.tw7817977360859998167 : True := trivial
theorem Mine.law_all.tw6814774676840398217 : True := trivial
theorem Mine.law_all.tw11572952145666636933 : True := trivial
theorem Mine.law_all.tw17824699565076465075 : True := trivial
theorem Mine.law_all.tw13367176642022358155 : True := trivial
theorem Mine.law_all.tw15102585243479572927 : True := trivial
theorem Mine.law_all.tw7518268271031788722 : True := trivial
theorem Mine.law_all.tw16348121039232670680 : True := trivial
theorem Mine.law_all.tw1458131495679319933 : True := trivial
theorem Mine.law_all.tw7219402698325937587 : True := trivial
theorem Mine.law_all.tw3983192056104361193 : True := trivial
theorem Mine.law_all.tw10780945830723714241 : True := trivial
theorem Mine.law_all.tw8305597428437692698 : True := trivial
theorem Mine.law_all.tw11587524997120335971 : True := trivial
theorem Mine.law_all.tw16768936007509957499 : True := trivial
theorem Mine.law_all.tw5429858767254799258 : True := trivial
theorem Mine.law_all.tw16317050728709778059 : True := trivial
theorem Mine.law_all.tw4629605032302363013 : True := trivial
theorem Mine.law_all.tw8836462397961589918 : True := trivial
theorem Mine.law_all.tw2238069962009214901 : True := trivial
theorem Mine.law_all.tw644193453371022997 : True := trivial
theorem Mine.law_all.tw1684386024576819110 : True := trivial
theorem Mine.law_all.tw7647884552941119451 : True := trivial
theorem Mine.law_all.tw2872085493576920064 : True := trivial
theorem Mine.law_all.tw7385059913978287034 : True := trivial
theorem Mine.law_all.tw2406078263742745528 : True := trivial
theorem Mine.law_all.tw3053660256275331401 : True := trivial
theorem Mine.law_all.tw12703074045546933829 : True := trivial
theorem Mine.law_all.tw782427809645370415 : True := trivial
theorem Mine.law_all.tw13838683757722122955 : True := trivial
theorem Mine.law_all.tw2126261026752179203 : True := trivial
theorem Mine.law_all.tw17671693468899418834 : True := trivial
theorem Mine.law_all.tw16654605471950451980 : True := trivial
theorem Mine.law_all.tw6456847839567275990 : True := trivial
theorem Mine.law_all.tw5923626274025043023 : True := trivial
theorem Mine.law_all.tw1288270072008814257 : True := trivial
theorem Mine.law_all.tw3728958221131766131 : True := trivial
theorem Mine.law_all.tw15994752243992478524 : True := trivial
theorem Mine.law_all.tw2818472761355251851 : True := trivial
theorem Mine.law_all.tw3049941219963327188 : True := trivial
theorem Mine.law_all.tw4607750278909125284 : True := trivial
theorem Mine.law_all.tw4665142225715192508 : True := trivial
theorem Mine.law_all.tw4875587917594351017 : True := trivial
theorem Mine.law_all.tw1166129813771130549 : True := trivial
theorem Mine.law_all.tw11266150474529332087 : True := trivial
theorem Mine.law_all.tw14578468027487938174 : True := trivial
theorem Mine.law_all.tw12729013581757030507 : True := trivial
theorem Mine.law_all.tw18223944042725728250 : True := trivial
theorem Mine.law_all.tw5058365699104195747 : True := trivial
theorem Mine.law_all.tw14236084546645660719 : True := trivial
theorem Mine.law_all.tw13048455256248648906 : True := trivial
theorem Mine.law_all.tw8587321083128229445 : True := trivial
theorem Mine.law_all.tw7244142420057014546 : True := trivial
theorem Mine.law_all.tw5099097261256123588 : True := trivial
theorem Mine.law_all.tw15982079766070313398 : True := trivial
theorem Mine.law_all.tw17769878892396552597 : True := trivial
theorem Mine.law_all.tw857312800663944748 : True := trivial
theorem Mine.law_all.tw801417409540640141 : True := trivial
theorem Mine.law_all.tw17633126580248655646 : True := trivial
theorem Mine.law_all.tw5386138778478946084 : True := trivial
theorem Mine.law_all.tw5467091673537627360 : True := trivial
theorem Mine.law_all.tw11085147635474315433 : True := trivial
theorem Mine.law_all.tw16436836394604217106 : True := trivial
theorem Mine.law_all.tw11185291794543270386 : True := trivial
theorem Mine.law_all.tw10253732280001569212 : True := trivial
theorem Mine.law_all.tw18369321035705266579 : True := trivial
theorem Mine.law_all.tw2224743311408289904 : True := trivial
theorem Mine.law_all.tw11819635365892184359 : True := trivial
theorem Mine.law_all.tw16745809935298821572 : True := trivial
theorem Mine.law_all.tw185478952616494882 : True := trivial
theorem Mine.law_all.tw3826946535189723318 : True := trivial
theorem Mine.law_all.tw17413550076941298003 : True := trivial
theorem Mine.law_all.tw11090485264053204359 : True := trivial
theorem Mine.law_all.tw2252203913613538044 : True := trivial
theorem Mine.law_all.tw2425498562415444253 : True := trivial
theorem Mine.law_all.tw16371026202757247076 : True := trivial
theorem Mine.law_all.tw9496831969247301946 : True := trivial
theorem Mine.law_all.tw7406990479455149028 : True := trivial
theorem Mine.law_all.tw1115970785884932992 : True := trivial
theorem Mine.law_all.tw937055499877386264 : True := trivial
theorem Mine.law_all.tw5007728179111998763 : True := trivial
theorem Mine.law_all.tw11566998951525393313 : True := trivial
theorem Mine.law_all.tw10300875812035996732 : True := trivial
theorem Mine.law_all.tw12338384112835736923 : True := trivial
theorem Mine.law_all.tw18383949787495555429 : True := trivial
theorem Mine.law_all.tw11986533732874898875 : True := trivial
theorem Mine.law_all.tw12415205634060267573 : True := trivial
theorem Mine.law_all.tw2103784332974290115 : True := trivial
theorem Mine.law_all.tw8259473591719373357 : True := trivial
theorem Mine.law_all.tw6592884879708733306 : True := trivial
theorem Mine.law_all.tw17138794587834298416 : True := trivial
theorem Mine.law_all.tw17461023701970706658 : True := trivial
theorem Mine.law_all.tw11464865452401227656 : True := trivial
theorem Mine.law_all.tw12719020962863150717 : True := trivial
theorem Mine.law_all.tw7564772252293548769 : True := trivial
theorem Mine.law_all.tw12836747770095448064 : True := trivial
theorem Mine.law_all.tw17613353281601113540 : True := trivial
theorem Mine.law_all.tw10425333190776739551 : True := trivial
theorem Mine.law_all.tw7296818474457393607 : True := trivial
theorem Mine.law_all.tw2225694422541459837 : True := trivial
theorem Mine.law_all.tw8585119295471724657 : True := trivial
theorem Mine.law_all.tw6550320685308687620 : True := trivial
theorem Mine.law_all.tw14640322939972922974 : True := trivial
theorem Mine.law_all.tw12507762813244862470 : True := trivial
theorem Mine.law_all.tw6775264209203825292 : True := trivial
theorem Mine.law_all.tw6564360385875737041 : True := trivial
theorem Mine.law_all.tw15640896081885072018 : True := trivial
theorem Mine.law_all.tw11407212017213923087 : True := trivial
theorem Mine.law_all.tw18425384942027050804 : True := trivial
theorem Mine.law_all.tw1347740606709914761 : True := trivial
theorem Mine.law_all.tw8729561690571945798 : True := trivial
theorem Mine.law_all.tw5810238935025566227 : True := trivial
theorem Mine.law_all.tw4800166454244708440 : True := trivial
theorem Mine.law_all.tw289511000256421866 : True := trivial
theorem Mine.law_all.tw13760747126890918739 : True := trivial
theorem Mine.law_all.tw15175368528575537740 : True := trivial
theorem Mine.law_all.tw7791439051762490624 : True := trivial
theorem Mine.law_all.tw17699220586243776058 : True := trivial
theorem Mine.law_all.tw17535888986555872392 : True := trivial
theorem Mine.law_all.tw9429942708143374130 : True := trivial
theorem Mine.law_all.tw8559622642134532576 : True := trivial
theorem Mine.law_all.tw645013614473375241 : True := trivial
theorem Mine.law_all.tw7290121776363987770 : True := trivial
theorem Mine.law_all.tw374766727668220859 : True := trivial
theorem Mine.law_all.tw10340441938079615943 : True := trivial
theorem Mine.law_all.tw9847930118418132646 : True := trivial
theorem Mine.law_all.tw9144500139776326259 : True := trivial
theorem Mine.law_all.tw12168520589393599259 : True := trivial
theorem Mine.law_all.tw4338267340049963969 : True := trivial
theorem Mine.law_all.tw15696156366995490489 : True := trivial
theorem Mine.law_all.tw9337859482809679654 : True := trivial
theorem Mine.law_all.tw14007897523862953668 : True := trivial
theorem Mine.law_all.tw404534946110283943 : True := trivial
theorem Mine.law_all.tw8406315387685492880 : True := trivial
theorem Mine.law_all.tw2763200530551224835 : True := trivial
theorem Mine.law_all.tw1702886262042523489 : True := trivial
theorem Mine.law_all.tw2791512771193701167 : True := trivial
theorem Mine.law_all.tw15877617104253876215 : True := trivial
theorem Mine.law_all.tw7497220510776412333 : True := trivial
theorem Mine.law_all.tw4663659113027530946 : True := trivial
theorem Mine.law_all.tw17074971947010181610 : True := trivial
theorem Mine.law_all.tw11968179528029030403 : True := trivial
theorem Mine.law_all.tw13274840464982359763 : True := trivial
theorem Mine.law_all.tw16610364562264112213 : True := trivial
theorem Mine.law_all.tw12795914074852961918 : True := trivial
theorem Mine.law_all.tw5332743953270975010 : True := trivial
theorem Mine.law_all.tw9642360315720231220 : True := trivial
theorem Mine.law_all.tw6723525195617269812 : True := trivial
theorem Mine.law_all.tw7382394883274062982 : True := trivial
theorem Mine.law_all.tw11509529326707108785 : True := trivial
theorem Mine.law_all.tw16108003277724382137 : True := trivial
theorem Mine.law_all.tw8937883705780218553 : True := trivial
theorem Mine.law_all.tw7570389025846386837 : True := trivial
theorem Mine.law_all.tw11283148420750326516 : True := trivial
theorem Mine.law_all.tw9729604732972894722 : True := trivial
theorem Mine.law_all.tw13008198028515782221 : True := trivial
theorem Mine.law_all.tw4638716497167235156 : True := trivial
theorem Mine.law_all.tw15327138436386969399 : True := trivial
theorem Mine.law_all.tw14115007137499183204 : True := trivial
theorem Mine.law_all.tw7292434958787203408 : True := trivial
theorem Mine.law_all.tw5925129876391146066 : True := trivial
theorem Mine.law_all.tw18424452837839797475 : True := trivial
theorem Mine.law_all.tw6818535541638068524 : True := trivial
theorem Mine.law_all.tw15693939393655280204 : True := trivial
theorem Mine.law_all.tw1819660966834464121 : True := trivial
theorem Mine.law_all.tw3560663033078476128 : True := trivial
theorem Mine.law_all.tw11836482064631991793 : True := trivial
theorem Mine.law_all.tw17749092094045793073 : True := trivial
theorem Mine.law_all.tw16413752452701970063 : True := trivial
theorem Mine.law_all.tw11779399842900871346 : True := trivial
theorem Mine.law_all.tw10427768884268684552 : True := trivial
theorem Mine.law_all.tw9015332790510971594 : True := trivial
theorem Mine.law_all.tw18438550808169337630 : True := trivial
theorem Mine.law_all.tw796818876455020728 : True := trivial
theorem Mine.law_all.tw2465578340897827915 : True := trivial
theorem Mine.law_all.tw18180275025638004960 : True := trivial
theorem Mine.law_all.tw17073913150402608559 : True := trivial
theorem Mine.law_all.tw17198419215744740974 : True := trivial
theorem Mine.law_all.tw1244168298268136379 : True := trivial
theorem Mine.law_all.tw4073406199993252850 : True := trivial
theorem Mine.law_all.tw9758465039191818689 : True := trivial
theorem Mine.law_all.tw14483480384061991028 : True := trivial
theorem Mine.law_all.tw14690459059760270787 : True := trivial
theorem Mine.law_all.tw10623982647197800651 : True := trivial
theorem Mine.law_all.tw3325111520719290175 : True := trivial
theorem Mine.law_all.tw569701484050765398 : True := trivial
theorem Mine.law_all.tw1908834790331025158 : True := trivial
theorem Mine.law_all.tw7297819598837024618 : True := trivial
theorem Mine.law_all.tw3806819470392062991 : True := trivial
theorem Mine.law_all.tw1071026390990159442 : True := trivial
theorem Mine.law_all.tw6022211634629375331 : True := trivial
theorem Mine.law_all.tw7318158564511299729 : True := trivial
theorem Mine.law_all.tw11195006048519719982 : True := trivial
theorem Mine.law_all.tw13794602993731048600 : True := trivial
theorem Mine.law_all.tw13531483092564520072 : True := trivial
theorem Mine.law_all.tw13809103348235374114 : True := trivial
theorem Mine.law_all.tw12610587468927266379 : True := trivial
theorem Mine.law_all.tw15275527861284700546 : True := trivial
theorem Mine.law_all.tw17610193108198147946 : True := trivial
theorem Mine.law_all.tw498969334165971575 : True := trivial
theorem Mine.law_all.tw15627020587669677704 : True := trivial
theorem Mine.law_all.tw18031673381082608066 : True := trivial
theorem Mine.law_all.tw14966067393961270158 : True := trivial
theorem Mine.law_all.tw7424173207631694637 : True := trivial
theorem Mine.law_all.tw15638214500589831823 : True := trivial
theorem Mine.law_all.tw18069371669798473238 : True := trivial
theorem Mine.law_all.tw17311543511305506410 : True := trivial
theorem Mine.law_all.tw6064550380648306667 : True := trivial
theorem Mine.law_all.tw8192627400900402444 : True := trivial
theorem Mine.law_all.tw11194228370837134999 : True := trivial
theorem Mine.law_all.tw10808177503072308079 : True := trivial
theorem Mine.law_all.tw11020806828292283134 : True := trivial
theorem Mine.law_all.tw1006284481315042348 : True := trivial
theorem Mine.law_all.tw9621619661464635597 : True := trivial
theorem Mine.law_all.tw13833317127055801060 : True := trivial
theorem Mine.law_all.tw5199301434253951998 : True := trivial
theorem Mine.law_all.tw34981568851968291 : True := trivial
theorem Mine.law_all.tw1988555749612562791 : True := trivial
theorem Mine.law_all.tw14384918623772240547 : True := trivial
theorem Mine.law_all.tw196974008228917347 : True := trivial
theorem Mine.law_all.tw15111771918000721386 : True := trivial
theorem Mine.law_all.tw9741297799410488584 : True := trivial
theorem Mine.law_all.tw3012268511640468390 : True := trivial
theorem Mine.law_all.tw6352045179492744985 : True := trivial
theorem Mine.law_all.tw4179209112946984403 : True := trivial
theorem Mine.law_all.tw4261436866732715612 : True := trivial
theorem Mine.law_all.tw11655911931479345256 : True := trivial
theorem Mine.law_all.tw2885707341163702077 : True := trivial
theorem Mine.law_all.tw14225962978905420208 : True := trivial
theorem Mine.law_all.tw1526100267518658005 : True := trivial
theorem Mine.law_all.tw2534205154373081525 : True := trivial
theorem Mine.law_all.tw11378994670534948722 : True := trivial
theorem Mine.law_all.tw8755279341700096616 : True := trivial
theorem Mine.law_all.tw3296963836593520940 : True := trivial
theorem Mine.law_all.tw9310598725500422130 : True := trivial
theorem Mine.law_all.tw12308355309068749982 : True := trivial
theorem Mine.law_all.tw13323004776771469176 : True := trivial
theorem Mine.law_all.tw7241301525396740710 : True := trivial
theorem Mine.law_all.tw11208032702916000851 : True := trivial
theorem Mine.law_all.tw1115311737908471259 : True := trivial
theorem Mine.law_all.tw13515836412680247291 : True := trivial
theorem Mine.law_all.tw18437768301239656569 : True := trivial
theorem Mine.law_all.tw3907663706730131783 : True := trivial
theorem Mine.law_all.tw1216541509919387563 : True := trivial
theorem Mine.law_all.tw13211181752546427078 : True := trivial
theorem Mine.law_all.tw16741880675132489432 : True := trivial
theorem Mine.law_all.tw8295653638501232855 : True := trivial
theorem Mine.law_all.tw17240311926567722313 : True := trivial
theorem Mine.law_all.tw16850067431916028951 : True := trivial
theorem Mine.law_all.tw1809502294756820286 : True := trivial
theorem Mine.law_all.tw2897607846274201091 : True := trivial
theorem Mine.law_all.tw14058198244844264512 : True := trivial
theorem Mine.law_all.tw7271498159299846290 : True := trivial
theorem Mine.law_all.tw6281336798887741830 : True := trivial
theorem Mine.law_all.tw17818739092667572935 : True := trivial
theorem Mine.law_all.tw3602784471345507114 : True := trivial
theorem Mine.law_all.tw15816446151563789378 : True := trivial
theorem Mine.law_all.tw4449761216389261190 : True := trivial
theorem Mine.law_all.tw6513319782983348548 : True := trivial
theorem Mine.law_all.tw6355135678535457092 : True := trivial
theorem Mine.law_all.tw1756717570143565084 : True := trivial
theorem Mine.law_all.tw5285307726481897559 : True := trivial
theorem Mine.law_all.tw1487786111206980130 : True := trivial
theorem Mine.law_all.tw14112813277465929817 : True := trivial
theorem Mine.law_all.tw12415261661798453589 : True := trivial
theorem Mine.law_all.tw8652508824891024273 : True := trivial
theorem Mine.law_all.tw10297145265793509435 : True := trivial
theorem Mine.law_all.tw13985060576507940359 : True := trivial
theorem Mine.law_all.tw3416886346130291467 : True := trivial
theorem Mine.law_all.tw1408806660432250928 : True := trivial
theorem Mine.law_all.tw7897600568026276390 : True := trivial
theorem Mine.law_all.tw711021382710547372 : True := trivial
theorem Mine.law_all.tw11953936395949465439 : True := trivial
theorem Mine.law_all.tw15775596325662777338 : True := trivial
theorem Mine.law_all.tw12051850038722144316 : True := trivial
theorem Mine.law_all.tw5483578599265696199 : True := trivial
theorem Mine.law_all.tw14100515932553792916 : True := trivial
theorem Mine.law_all.tw10024686837709580625 : True := trivial
theorem Mine.law_all.tw3740185271146487245 : True := trivial
theorem Mine.law_all.tw18313445508184284481 : True := trivial
theorem Mine.law_all.tw743412211500013303 : True := trivial
theorem Mine.law_all.tw7379131392961922385 : True := trivial
theorem Mine.law_all.tw12509682125398910234 : True := trivial
theorem Mine.law_all.tw15256493282736253867 : True := trivial
theorem Mine.law_all.tw13061075394575644761 : True := trivial
theorem Mine.law_all.tw12733668576097638289 : True := trivial
theorem Mine.law_all.tw13846950719819077829 : True := trivial
theorem Mine.law_all.tw5403677533733193846 : True := trivial
theorem Mine.law_all.tw10517906790627618544 : True := trivial
theorem Mine.law_all.tw17215917983952657280 : True := trivial
theorem Mine.law_all.tw15988576510117618290 : True := trivial
theorem Mine.law_all.tw17657424406159520245 : True := trivial
theorem Mine.law_all.tw15053150841094675366 : True := trivial
theorem Mine.law_all.tw9389932311233280350 : True := trivial
theorem Mine.law_all.tw11977895914950762854 : True := trivial
theorem Mine.law_all.tw16802804513485658213 : True := trivial
theorem Mine.law_all.tw4771868648470891126 : True := trivial
theorem Mine.law_all.tw4513022563276176288 : True := trivial
theorem Mine.law_all.tw14998430357298625318 : True := trivial
theorem Mine.law_all.tw10470740866990187283 : True := trivial
theorem Mine.law_all.tw12491990524712166927 : True := trivial
theorem Mine.law_all.tw15817853144674484978 : True := trivial
theorem Mine.law_all.tw1909231634321623422 : True := trivial
theorem Mine.law_all.tw11169120883424520007 : True := trivial
theorem Mine.law_all.tw9697324461614764831 : True := trivial
theorem Mine.law_all.tw6541656116107318362 : True := trivial
theorem Mine.law_all.tw11156016171303442314 : True := trivial
theorem Mine.law_all.tw17831633481768180021 : True := trivial
theorem Mine.law_all.tw9929707098585528879 : True := trivial
theorem Mine.law_all.tw16838179679014408406 : True := trivial
theorem Mine.law_all.tw11911069920064303837 : True := trivial
theorem Mine.law_all.tw10972643930856128791 : True := trivial
theorem Mine.law_all.tw13760851721862378156 : True := trivial
theorem Mine.law_all.tw1592464377872422232 : True := trivial
theorem Mine.law_all.tw13581327203777572028 : True := trivial
theorem Mine.law_all.tw14022319627245857414 : True := trivial
theorem Mine.law_all.tw10575808222751662728 : True := trivial
theorem Mine.law_all.tw12309555987426629805 : True := trivial
theorem Mine.law_all.tw3426539022656043222 : True := trivial
theorem Mine.law_all.tw1200807466883419909 : True := trivial
theorem Mine.law_all.tw18084819778460367582 : True := trivial
theorem Mine.law_all.tw254210294449290986 : True := trivial
theorem Mine.law_all.tw9987792911408698340 : True := trivial
theorem Mine.law_all.tw14783403437535847111 : True := trivial
theorem Mine.law_all.tw2154737406897626791 : True := trivial
theorem Mine.law_all.tw7574916185476446870 : True := trivial
theorem Mine.law_all.tw11666791612657790110 : True := trivial
theorem Mine.law_all.tw11833566044642688545 : True := trivial
theorem Mine.law_all.tw5391715999942285979 : True := trivial
theorem Mine.law_all.tw3284748957273996875 : True := trivial
theorem Mine.law_all.tw2714459630560403676 : True := trivial
theorem Mine.law_all.tw4105255371170773908 : True := trivial
theorem Mine.law_all.tw7911531064090814180 : True := trivial
theorem Mine.law_all.tw6471123649784635168 : True := trivial
theorem Mine.law_all.tw17238692654854937651 : True := trivial
theorem Mine.law_all.tw866766908457270551 : True := trivial
theorem Mine.law_all.tw13050402135260733356 : True := trivial
theorem Mine.law_all.tw3263060017730090603 : True := trivial
theorem Mine.law_all.tw5945882358115643694 : True := trivial
theorem Mine.law_all.tw14448975606232184337 : True := trivial
theorem Mine.law_all.tw5542367601281971411 : True := trivial
theorem Mine.law_all.tw12613626564643572922 : True := trivial
theorem Mine.law_all.tw14437242743615798716 : True := trivial
theorem Mine.law_all.tw3903515962272563663 : True := trivial
theorem Mine.law_all.tw4959470712613272833 : True := trivial
theorem Mine.law_all.tw10632998686855480601 : True := trivial
theorem Mine.law_all.tw10486281728991561039 : True := trivial
theorem Mine.law_all.tw9135970852051700672 : True := trivial
theorem Mine.law_all.tw10075033275381536440 : True := trivial
theorem Mine.law_all.tw14512922981909422826 : True := trivial
theorem Mine.law_all.tw15743857825236497588 : True := trivial
theorem Mine.law_all.tw4545471796157021838 : True := trivial
theorem Mine.law_all.tw13989974958611873218 : True := trivial
theorem Mine.law_all.tw14991419344657449139 : True := trivial
theorem Mine.law_all.tw2619257411496593575 : True := trivial
theorem Mine.law_all.tw1682832674239571567 : True := trivial
theorem Mine.law_all.tw17459176674885784516 : True := trivial
theorem Mine.law_all.tw3813577191599259775 : True := trivial
theorem Mine.law_all.tw12760510453615215998 : True := trivial
theorem Mine.law_all.tw2525653633432605389 : True := trivial
theorem Mine.law_all.tw11821130883310013321 : True := trivial
theorem Mine.law_all.tw11316630271383740818 : True := trivial
theorem Mine.law_all.tw9441140268209864922 : True := trivial
theorem Mine.law_all.tw9730515428898209248 : True := trivial
theorem Mine.law_all.tw12012145143388645040 : True := trivial
theorem Mine.law_all.tw17135547795266049317 : True := trivial
theorem Mine.law_all.tw5914833246583547866 : True := trivial
theorem Mine.law_all.tw10842723371336156597 : True := trivial
theorem Mine.law_all.tw3663503265976199116 : True := trivial
theorem Mine.law_all.tw3050570416659367537 : True := trivial
theorem Mine.law_all.tw17035568942905013000 : True := trivial
theorem Mine.law_all.tw2919649542600381882 : True := trivial
theorem Mine.law_all.tw1373718396076105583 : True := trivial
theorem Mine.law_all.tw2746415857694854958 : True := trivial
theorem Mine.law_all.tw16280616582512762277 : True := trivial
theorem Mine.law_all.tw10240734782212473332 : True := trivial
theorem Mine.law_all.tw10529780158634616513 : True := trivial
theorem Mine.law_all.tw7188791813448049371 : True := trivial
theorem Mine.law_all.tw11072852086419898238 : True := trivial
theorem Mine.law_all.tw12055539081176029090 : True := trivial
theorem Mine.law_all.tw12240263347232697027 : True := trivial
theorem Mine.law_all.tw7757561431791933054 : True := trivial
theorem Mine.law_all.tw623384496221371744 : True := trivial
theorem Mine.law_all.tw13699687274142533169 : True := trivial
theorem Mine.law_all.tw14174517074612190596 : True := trivial
theorem Mine.law_all.tw11981917482434212799 : True := trivial
theorem Mine.law_all.tw9881681013793774600 : True := trivial
theorem Mine.law_all.tw2560851641824476598 : True := trivial
theorem Mine.law_all.tw10344729229328920165 : True := trivial
theorem Mine.law_all.tw15041844750066439977 : True := trivial
theorem Mine.law_all.tw11126621595802289062 : True := trivial
theorem Mine.law_all.tw18049563021733404900 : True := trivial
theorem Mine.law_all.tw15222793665863523046 : True := trivial
theorem Mine.law_all.tw16611412123790042429 : True := trivial
theorem Mine.law_all.tw10090999975856555344 : True := trivial
theorem Mine.law_all.tw8858638111541304496 : True := trivial
theorem Mine.law_all.tw8820261365336496098 : True := trivial
theorem Mine.law_all.tw3261250254779219729 : True := trivial
theorem Mine.law_all.tw5962365601980372440 : True := trivial
theorem Mine.law_all.tw9906353361400467681 : True := trivial
theorem Mine.law_all.tw3015541545424464467 : True := trivial
theorem Mine.law_all.tw51366843150158886 : True := trivial
theorem Mine.law_all.tw10754601566845926611 : True := trivial
theorem Mine.law_all.tw5947366203799548357 : True := trivial
theorem Mine.law_all.tw12685006382546950688 : True := trivial
theorem Mine.law_all.tw4289236661132030044 : True := trivial
theorem Mine.law_all.tw10437830444076844960 : True := trivial
theorem Mine.law_all.tw14396964315094823396 : True := trivial
theorem Mine.law_all.tw5591302951066050737 : True := trivial
theorem Mine.law_all.tw15991014356718627131 : True := trivial
theorem Mine.law_all.tw16084122824873582314 : True := trivial
theorem Mine.law_all.tw8496572883052770167 : True := trivial
theorem Mine.law_all.tw4373205857372294398 : True := trivial
theorem Mine.law_all.tw12880530043633816451 : True := trivial
theorem Mine.law_all.tw14816879207175617225 : True := trivial
theorem Mine.law_all.tw4182408002180818360 : True := trivial
theorem Mine.law_all.tw11086646823923730572 : True := trivial
theorem Mine.law_all.tw11806459468589365706 : True := trivial
theorem Mine.law_all.tw11681217401251675389 : True := trivial
theorem Mine.law_all.tw17550541601872772917 : True := trivial
theorem Mine.law_all.tw8351115422591919128 : True := trivial
theorem Mine.law_all.tw10221997122443297352 : True := trivial
theorem Mine.law_all.tw17386547048453696860 : True := trivial
theorem Mine.law_all.tw2018976290973465159 : True := trivial
theorem Mine.law_all.tw1703305540711997886 : True := trivial
theorem Mine.law_all.tw9421408513443329588 : True := trivial
theorem Mine.law_all.tw1619606534716276043 : True := trivial
theorem Mine.law_all.tw906757414912418612 : True := trivial
theorem Mine.law_all.tw5176073063277498486 : True := trivial
theorem Mine.law_all.tw6311965134907485826 : True := trivial
theorem Mine.law_all.tw13786776866538912107 : True := trivial
theorem Mine.law_all.tw4881685112826633117 : True := trivial
theorem Mine.law_all.tw17008558775933394028 : True := trivial
theorem Mine.law_all.tw5143838461203301668 : True := trivial
theorem Mine.law_all.tw13880960847138548369 : True := trivial
theorem Mine.law_all.tw18260159938748754179 : True := trivial
theorem Mine.law_all.tw7470513268851451213 : True := trivial
theorem Mine.law_all.tw10332199025257759670 : True := trivial
theorem Mine.law_all.tw1536540366311737286 : True := trivial
theorem Mine.law_all.tw43822206185756307 : True := trivial
theorem Mine.law_all.tw7506031421445054254 : True := trivial
theorem Mine.law_all.tw2135314059674174450 : True := trivial
theorem Mine.law_all.tw13023151741414912232 : True := trivial
theorem Mine.law_all.tw11973853004191696713 : True := trivial
theorem Mine.law_all.tw14692936392394494320 : True := trivial
theorem Mine.law_all.tw13528875618702146035 : True := trivial
theorem Mine.law_all.tw1961576592547977382 : True := trivial
theorem Mine.law_all.tw11008839944985332601 : True := trivial
theorem Mine.law_all.tw14038700456328504219 : True := trivial
theorem Mine.law_all.tw6394399434190074597 : True := trivial
theorem Mine.law_all.tw1469086916834449242 : True := trivial
theorem Mine.law_all.tw6068437695709350847 : True := trivial
theorem Mine.law_all.tw15421611283047414692 : True := trivial
theorem Mine.law_all.tw1213014688269875124 : True := trivial
theorem Mine.law_all.tw12644882131140162811 : True := trivial
theorem Mine.law_all.tw16994514146051193508 : True := trivial
theorem Mine.law_all.tw10806039510188334631 : True := trivial
theorem Mine.law_all.tw11061263923128422616 : True := trivial
theorem Mine.law_all.tw17333561848662834254 : True := trivial
theorem Mine.law_all.tw9885059535474818502 : True := trivial
theorem Mine.law_all.tw6495852183210934563 : True := trivial
theorem Mine.law_all.tw7224549994232214638 : True := trivial
theorem Mine.law_all.tw6372170185144319752 : True := trivial
theorem Mine.law_all.tw2981204530259232531 : True := trivial
theorem Mine.law_all.tw4481082551865045004 : True := trivial
theorem Mine.law_all.tw1224010249265392569 : True := trivial
theorem Mine.law_all.tw16364907183938773818 : True := trivial
theorem Mine.law_all.tw12074057436302401830 : True := trivial
theorem Mine.law_all.tw14969216848811132704 : True := trivial
theorem Mine.law_all.tw15106878835201008470 : True := trivial
theorem Mine.law_all.tw14752512131158284028 : True := trivial
theorem Mine.law_all.tw10427663710399940043 : True := trivial
theorem Mine.law_all.tw1556948465960636121 : True := trivial
theorem Mine.law_all.tw8410422384732016249 : True := trivial
theorem Mine.law_all.tw13763162616901922433 : True := trivial
theorem Mine.law_all.tw9126654936404069527 : True := trivial
theorem Mine.law_all.tw121348372011856147 : True := trivial
theorem Mine.law_all.tw12303014915382014946 : True := trivial
theorem Mine.law_all.tw7271922334478322552 : True := trivial
theorem Mine.law_all.tw17091725206767289263 : True := trivial
theorem Mine.law_all.tw14978941665995686438 : True := trivial
theorem Mine.law_all.tw17213418721671049187 : True := trivial
theorem Mine.law_all.tw1584610834578658081 : True := trivial
theorem Mine.law_all.tw13697446050514408011 : True := trivial
theorem Mine.law_all.tw12230927248747617965 : True := trivial
theorem Mine.law_all.tw13095150338055272814 : True := trivial
theorem Mine.law_all.tw16554060013575348944 : True := trivial
theorem Mine.law_all.tw9058530902327166115 : True := trivial
theorem Mine.law_all.tw1938755509981744232 : True := trivial
theorem Mine.law_all.tw7658680413803366864 : True := trivial
theorem Mine.law_all.tw2394756045033803996 : True := trivial
theorem Mine.law_all.tw15845778499796225489 : True := trivial
theorem Mine.law_all.tw10586219493256288171 : True := trivial
theorem Mine.law_all.tw7837713855860009970 : True := trivial
theorem Mine.law_all.tw16759230557537464115 : True := trivial
theorem Mine.law_all.tw14548401533875796570 : True := trivial
theorem Mine.law_all.tw4493041973297072924 : True := trivial
theorem Mine.law_all.tw13066556902979482641 : True := trivial
theorem Mine.law_all.tw12821476480046859578 : True := trivial
theorem Mine.law_all.tw3877723044392924569 : True := trivial
theorem Mine.law_all.tw5113565536986230370 : True := trivial
theorem Mine.law_all.tw16434993861110634532 : True := trivial
theorem Mine.law_all.tw2754305514957794308 : True := trivial
theorem Mine.law_all.tw941666048300869634 : True := trivial
theorem Mine.law_all.tw11604076886869528917 : True := trivial
theorem Mine.law_all.tw12852575843583276402 : True := trivial
theorem Mine.law_all.tw8810683771702325575 : True := trivial
theorem Mine.law_all.tw16385951753907185183 : True := trivial
theorem Mine.law_all.tw10464263001826078911 : True := trivial
theorem Mine.law_all.tw11254592457914836137 : True := trivial
theorem Mine.law_all.tw17264329242000108839 : True := trivial
theorem Mine.law_all.tw6231318655119160662 : True := trivial
theorem Mine.law_all.tw10562567905742353873 : True := trivial
theorem Mine.law_all.tw9055577570390366099 : True := trivial
theorem Mine.law_all.tw3669051535078491162 : True := trivial
theorem Mine.law_all.tw18243188635623463072 : True := trivial
theorem Mine.law_all.tw265244927588178289 : True := trivial
theorem Mine.law_all.tw8352638903468824440 : True := trivial
theorem Mine.law_all.tw12384212371979683370 : True := trivial
theorem Mine.law_all.tw10565121375587587042 : True := trivial
theorem Mine.law_all.tw14285781888347874446 : True := trivial
theorem Mine.law_all.tw2506844670610910573 : True := trivial
theorem Mine.law_all.tw6645749129768185620 : True := trivial
theorem Mine.law_all.tw15313853814466723436 : True := trivial
theorem Mine.law_all.tw13104927337049522412 : True := trivial
theorem Mine.law_all.tw12681778448758301329 : True := trivial
theorem Mine.law_all.tw11755048821886595345 : True := trivial
theorem Mine.law_all.tw5407152262560994199 : True := trivial
theorem Mine.law_all.tw17139090271463625037 : True := trivial
theorem Mine.law_all.tw17783994495123558372 : True := trivial
theorem Mine.law_all.tw14745461692227509293 : True := trivial
theorem Mine.law_all.tw13814730616935933626 : True := trivial
theorem Mine.law_all.tw7697204384454675280 : True := trivial
theorem Mine.law_all.tw8998419837362456327 : True := trivial
theorem Mine.law_all.tw8665318985690784266 : True := trivial
theorem Mine.law_all.tw6463489072841894807 : True := trivial
theorem Mine.law_all.tw1126804568260048138 : True := trivial
theorem Mine.law_all.tw15076095784800757957 : True := trivial
theorem Mine.law_all.tw17811419955406721850 : True := trivial
theorem Mine.law_all.tw2271960705470518616 : True := trivial
theorem Mine.law_all.tw12018720973117135595 : True := trivial
theorem Mine.law_all.tw15516733807979383809 : True := trivial
theorem Mine.law_all.tw5105902913525381356 : True := trivial
theorem Mine.law_all.tw15740732772335265587 : True := trivial
theorem Mine.law_all.tw14971921406432897392 : True := trivial
theorem Mine.law_all.tw10277864918451100114 : True := trivial
theorem Mine.law_all.tw581509044858899661 : True := trivial
theorem Mine.law_all.tw9992796612143662886 : True := trivial
theorem Mine.law_all.tw5196125583654719661 : True := trivial
theorem Mine.law_all.tw12742291788480804056 : True := trivial
theorem Mine.law_all.tw7517537711377488852 : True := trivial
theorem Mine.law_all.tw15807664475251556305 : True := trivial
theorem Mine.law_all.tw15353343082906663676 : True := trivial
theorem Mine.law_all.tw16378840673372724951 : True := trivial
theorem Mine.law_all.tw5774103589672948085 : True := trivial
theorem Mine.law_all.tw7902074397041296349 : True := trivial
theorem Mine.law_all.tw4787805881238422163 : True := trivial
theorem Mine.law_all.tw17516141867632195740 : True := trivial
theorem Mine.law_all.tw4218093189155465367 : True := trivial
theorem Mine.law_all.tw232006020691507172 : True := trivial
theorem Mine.law_all.tw9437977712622912741 : True := trivial
theorem Mine.law_all.tw2413856156487422069 : True := trivial
theorem Mine.law_all.tw11370059905445811129 : True := trivial
theorem Mine.law_all.tw865885312489698057 : True := trivial
theorem Mine.law_all.tw12623802867859471158 : True := trivial
theorem Mine.law_all.tw6478741611622195713 : True := trivial
theorem Mine.law_all.tw2455935472648855358 : True := trivial
theorem Mine.law_all.tw5881413082840422312 : True := trivial
theorem Mine.law_all.tw86908756275839534 : True := trivial
theorem Mine.law_all.tw9326504959393919199 : True := trivial
theorem Mine.law_all.tw9793429609119093069 : True := trivial
theorem Mine.law_all.tw7664980124186717229 : True := trivial
theorem Mine.law_all.tw12095277606438711637 : True := trivial
theorem Mine.law_all.tw1678774688637317811 : True := trivial
theorem Mine.law_all.tw3498384184797677056 : True := trivial
theorem Mine.law_all.tw1766896147755282778 : True := trivial
theorem Mine.law_all.tw15796676433106474108 : True := trivial
theorem Mine.law_all.tw12829037096407747505 : True := trivial
theorem Mine.law_all.tw10112902700007934811 : True := trivial
theorem Mine.law_all.tw4316066407692741691 : True := trivial
theorem Mine.law_all.tw14300270879109701445 : True := trivial
theorem Mine.law_all.tw5046676412343541489 : True := trivial
theorem Mine.law_all.tw1682840521854849442 : True := trivial
theorem Mine.law_all.tw1542534431135467645 : True := trivial
theorem Mine.law_all.tw16101399557488211435 : True := trivial
theorem Mine.law_all.tw7757124845224084579 : True := trivial
theorem Mine.law_all.tw2891144412967124082 : True := trivial
theorem Mine.law_all.tw8636992181308737738 : True := trivial
theorem Mine.law_all.tw7032130934624792205 : True := trivial
theorem Mine.law_all.tw17711649757482097080 : True := trivial
theorem Mine.law_all.tw17964100949573051663 : True := trivial
theorem Mine.law_all.tw3243097391343231957 : True := trivial
theorem Mine.law_all.tw541292884143145059 : True := trivial
theorem Mine.law_all.tw14086168745368120678 : True := trivial
theorem Mine.law_all.tw4411415793883364592 : True := trivial
theorem Mine.law_all.tw15090710645362110852 : True := trivial
theorem Mine.law_all.tw2558263876058320549 : True := trivial
theorem Mine.law_all.tw2174520888648116866 : True := trivial
theorem Mine.law_all.tw17821587149742552891 : True := trivial
theorem Mine.law_all.tw2432424846941410789 : True := trivial
theorem Mine.law_all.tw1407716047416726741 : True := trivial
theorem Mine.law_all.tw7982698399765186325 : True := trivial
theorem Mine.law_all.tw13977805788617109767 : True := trivial
theorem Mine.law_all.tw4783601065168354762 : True := trivial
theorem Mine.law_all.tw17162081525036864674 : True := trivial
theorem Mine.law_all.tw9098079959301702225 : True := trivial
theorem Mine.law_all.tw3777453917453456667 : True := trivial
theorem Mine.law_all.tw6237928856598503754 : True := trivial
theorem Mine.law_all.tw9285932881680792518 : True := trivial
theorem Mine.law_all.tw9626924371936766941 : True := trivial
theorem Mine.law_all.tw7601383465899748548 : True := trivial
theorem Mine.law_all.tw7166755544651728111 : True := trivial
theorem Mine.law_all.tw11404586228399824523 : True := trivial
theorem Mine.law_all.tw2726533656112109469 : True := trivial
theorem Mine.law_all.tw6039264787345505811 : True := trivial
theorem Mine.law_all.tw14200917436561629008 : True := trivial
theorem Mine.law_all.tw1178986762315405437 : True := trivial
theorem Mine.law_all.tw8864850031346182118 : True := trivial
theorem Mine.law_all.tw16625629747186990877 : True := trivial
theorem Mine.law_all.tw7762748990098453861 : True := trivial
theorem Mine.law_all.tw12466342130767247577 : True := trivial
theorem Mine.law_all.tw13685136416335799533 : True := trivial
theorem Mine.law_all.tw1618355861504449712 : True := trivial
theorem Mine.law_all.tw14600590696809855391 : True := trivial
theorem Mine.law_all.tw11237757471492391802 : True := trivial
theorem Mine.law_all.tw4810359999024667066 : True := trivial
theorem Mine.law_all.tw10938250296463516022 : True := trivial
theorem Mine.law_all.tw4116516876634802910 : True := trivial
theorem Mine.law_all.tw4357118453508938140 : True := trivial
theorem Mine.law_all.tw12332833768631797781 : True := trivial
theorem Mine.law_all.tw18084503921448002766 : True := trivial
theorem Mine.law_all.tw5961023722609971472 : True := trivial
theorem Mine.law_all.tw7979492120457570264 : True := trivial
theorem Mine.law_all.tw4198061620403395136 : True := trivial
theorem Mine.law_all.tw324088458086427686 : True := trivial
theorem Mine.law_all.tw1668538180921589862 : True := trivial
theorem Mine.law_all.tw7028125823600010858 : True := trivial
theorem Mine.law_all.tw12057113539981475253 : True := trivial
theorem Mine.law_all.tw14165149365823648315 : True := trivial
theorem Mine.law_all.tw6667596460715735799 : True := trivial
theorem Mine.law_all.tw4710498895635838384 : True := trivial
theorem Mine.law_all.tw6851157634355297669 : True := trivial
theorem Mine.law_all.tw9005674034113058390 : True := trivial
theorem Mine.law_all.tw10423822332596533971 : True := trivial
theorem Mine.law_all.tw16081171039842257919 : True := trivial
theorem Mine.law_all.tw6801470937092483863 : True := trivial
theorem Mine.law_all.tw8921295990715661176 : True := trivial
theorem Mine.law_all.tw4142882797520435500 : True := trivial
theorem Mine.law_all.tw7213851623774115239 : True := trivial
theorem Mine.law_all.tw17628540532235563227 : True := trivial
theorem Mine.law_all.tw17313086474550658941 : True := trivial
theorem Mine.law_all.tw4971525033006987312 : True := trivial
theorem Mine.law_all.tw5306588570621787507 : True := trivial
theorem Mine.law_all.tw13446384164382990572 : True := trivial
theorem Mine.law_all.tw12443848507722431881 : True := trivial
theorem Mine.law_all.tw14024095959683317476 : True := trivial
theorem Mine.law_all.tw15026446780328764363 : True := trivial
theorem Mine.law_all.tw2924756278709178009 : True := trivial
theorem Mine.law_all.tw18299426437183154797 : True := trivial
theorem Mine.law_all.tw11739812003963863410 : True := trivial
theorem Mine.law_all.tw13444409871249696073 : True := trivial
theorem Mine.law_all.tw8287017651184956003 : True := trivial
theorem Mine.law_all.tw308099982120028020 : True := trivial
theorem Mine.law_all.tw10548317783181927485 : True := trivial
theorem Mine.law_all.tw8100261704194928128 : True := trivial
theorem Mine.law_all.tw9837858002760397563 : True := trivial
theorem Mine.law_all.tw16731210891918897592 : True := trivial
theorem Mine.law_all.tw16903987867393959857 : True := trivial
theorem Mine.law_all.tw14976291558557332888 : True := trivial
theorem Mine.law_all.tw15121837243256198043 : True := trivial
theorem Mine.law_all.tw12078552371085240558 : True := trivial
theorem Mine.law_all.tw5077807667812295140 : True := trivial
theorem Mine.law_all.tw8765806042451288875 : True := trivial
theorem Mine.law_all.tw9706086234395682267 : True := trivial
theorem Mine.law_all.tw16693345006668779598 : True := trivial
theorem Mine.law_all.tw6974504298890653878 : True := trivial
theorem Mine.law_all.tw15404506543987917969 : True := trivial
theorem Mine.law_all.tw13801121007944782333 : True := trivial
theorem Mine.law_all.tw1851005829296705102 : True := trivial
theorem Mine.law_all.tw18115598367602769801 : True := trivial
theorem Mine.law_all.tw4767241430983704032 : True := trivial
theorem Mine.law_all.tw5719042974799534917 : True := trivial
theorem Mine.law_all.tw11615710364362942683 : True := trivial
theorem Mine.law_all.tw2289857599661718217 : True := trivial
theorem Mine.law_all.tw7035262430463298820 : True := trivial
theorem Mine.law_all.tw5355107437934412706 : True := trivial
theorem Mine.law_all.tw866564066945910344 : True := trivial
theorem Mine.law_all.tw3743276652137241584 : True := trivial
theorem Mine.law_all.tw17115713224241774592 : True := trivial
theorem Mine.law_all.tw12588457292089711807 : True := trivial
theorem Mine.law_all.tw1541181133342956825 : True := trivial
theorem Mine.law_all.tw17962646048161934237 : True := trivial
theorem Mine.law_all.tw742109610064614720 : True := trivial
theorem Mine.law_all.tw16892600953724058444 : True := trivial
theorem Mine.law_all.tw13491740491915545503 : True := trivial
theorem Mine.law_all.tw12534027776361810370 : True := trivial
theorem Mine.law_all.tw9350206980387211188 : True := trivial
theorem Mine.law_all.tw14636622166468137105 : True := trivial
theorem Mine.law_all.tw4813512349449720863 : True := trivial
theorem Mine.law_all.tw8552878003761168958 : True := trivial
theorem Mine.law_all.tw8961255980978662838 : True := trivial
theorem Mine.law_all.tw8373480759210339737 : True := trivial
theorem Mine.law_all.tw12857768353395258856 : True := trivial
theorem Mine.law_all.tw4438399736822516121 : True := trivial
theorem Mine.law_all.tw14404595031650566798 : True := trivial
theorem Mine.law_all.tw14169471996915453906 : True := trivial
theorem Mine.law_all.tw7163010275520755743 : True := trivial
theorem Mine.law_all.tw18135408350670230780 : True := trivial
theorem Mine.law_all.tw14967953119522679212 : True := trivial
theorem Mine.law_all.tw17213219829386642084 : True := trivial
theorem Mine.law_all.tw7804374761869212844 : True := trivial
theorem Mine.law_all.tw3896677248486430384 : True := trivial
theorem Mine.law_all.tw8408013158107128451 : True := trivial
theorem Mine.law_all.tw14484216793023953687 : True := trivial
theorem Mine.law_all.tw868222490149932729 : True := trivial
theorem Mine.law_all.tw4640835974096237147 : True := trivial
theorem Mine.law_all.tw3933338468746785916 : True := trivial
theorem Mine.law_all.tw1745867294719425553 : True := trivial
theorem Mine.law_all.tw12281828514994423027 : True := trivial
theorem Mine.law_all.tw2812987420286402142 : True := trivial
theorem Mine.law_all.tw15680072974341577534 : True := trivial
theorem Mine.law_all.tw9019875401820227665 : True := trivial
theorem Mine.law_all.tw540954306642092798 : True := trivial
theorem Mine.law_all.tw5515175385397997255 : True := trivial
theorem Mine.law_all.tw8810399088073249494 : True := trivial
theorem Mine.law_all.tw13881306047427017735 : True := trivial
theorem Mine.law_all.tw5465242347971369183 : True := trivial
theorem Mine.law_all.tw17956888979338296214 : True := trivial
theorem Mine.law_all.tw2586092790497031182 : True := trivial
theorem Mine.law_all.tw8053974599713079812 : True := trivial
theorem Mine.law_all.tw8925359147337055447 : True := trivial
theorem Mine.law_all.tw4676387156939204929 : True := trivial
theorem Mine.law_all.tw13312783184378385674 : True := trivial
theorem Mine.law_all.tw14573240092562081179 : True := trivial
theorem Mine.law_all.tw50990029914848857 : True := trivial
theorem Mine.law_all.tw5453859960540951435 : True := trivial
theorem Mine.law_all.tw16258484221863406547 : True := trivial
theorem Mine.law_all.tw7701153426736177974 : True := trivial
theorem Mine.law_all.tw7810743181515291045 : True := trivial
theorem Mine.law_all.tw8618336906785351942 : True := trivial
theorem Mine.law_all.tw12104823046187114806 : True := trivial
theorem Mine.law_all.tw35717200308832025 : True := trivial
theorem Mine.law_all.tw18198261566025488028 : True := trivial
theorem Mine.law_all.tw12426150187355495272 : True := trivial
theorem Mine.law_all.tw15515702583689602614 : True := trivial
theorem Mine.law_all.tw15955839384417658414 : True := trivial
theorem Mine.law_all.tw1038885855152599283 : True := trivial
theorem Mine.law_all.tw5331902312086228352 : True := trivial
theorem Mine.law_all.tw13984151417817525133 : True := trivial
theorem Mine.law_all.tw2032630373190490227 : True := trivial
theorem Mine.law_all.tw9065303865073120601 : True := trivial
theorem Mine.law_all.tw2472384424244870459 : True := trivial
theorem Mine.law_all.tw8847300426190641854 : True := trivial
theorem Mine.law_all.tw18074040619987095483 : True := trivial
theorem Mine.law_all.tw14929244992755822200 : True := trivial
theorem Mine.law_all.tw7565920113569585601 : True := trivial
theorem Mine.law_all.tw4799799285233713263 : True := trivial
theorem Mine.law_all.tw1672642222964062884 : True := trivial
theorem Mine.law_all.tw17060384074182460019 : True := trivial
theorem Mine.law_all.tw8292125754366032315 : True := trivial
theorem Mine.law_all.tw7089003446540823613 : True := trivial
theorem Mine.law_all.tw16314742590276871135 : True := trivial
theorem Mine.law_all.tw8515956640902208893 : True := trivial
theorem Mine.law_all.tw42735402098718572 : True := trivial
theorem Mine.law_all.tw14703302427499458811 : True := trivial
theorem Mine.law_all.tw12912951368749151951 : True := trivial
theorem Mine.law_all.tw10247251320241082336 : True := trivial
theorem Mine.law_all.tw10447141982152834051 : True := trivial
theorem Mine.law_all.tw7780568949283567224 : True := trivial
theorem Mine.law_all.tw11688695010476522603 : True := trivial
theorem Mine.law_all.tw1125080383469598763 : True := trivial
theorem Mine.law_all.tw1264670296981799925 : True := trivial
theorem Mine.law_all.tw5823586147374532853 : True := trivial
theorem Mine.law_all.tw8631452304911163145 : True := trivial
theorem Mine.law_all.tw1861297953188256277 : True := trivial
theorem Mine.law_all.tw16371739260329825113 : True := trivial
theorem Mine.law_all.tw4468289917989545160 : True := trivial
theorem Mine.law_all.tw17381011072343130446 : True := trivial
theorem Mine.law_all.tw15387212284789558141 : True := trivial
theorem Mine.law_all.tw3692716606047857953 : True := trivial
theorem Mine.law_all.tw4848548716629997264 : True := trivial
theorem Mine.law_all.tw14011421268284267096 : True := trivial
theorem Mine.law_all.tw6325109397354473172 : True := trivial
theorem Mine.law_all.tw14766775574214876319 : True := trivial
theorem Mine.law_all.tw4625211604613518413 : True := trivial
theorem Mine.law_all.tw1733342002462095466 : True := trivial
theorem Mine.law_all.tw14662071744767229590 : True := trivial
theorem Mine.law_all.tw17208948692691691804 : True := trivial
theorem Mine.law_all.tw15362320644881486680 : True := trivial
theorem Mine.law_all.tw16371911816118071455 : True := trivial
theorem Mine.law_all.tw5126693611934764887 : True := trivial
theorem Mine.law_all.tw9726562403335934281 : True := trivial
theorem Mine.law_all.tw9225959068197669698 : True := trivial
theorem Mine.law_all.tw11887072702994114029 : True := trivial
theorem Mine.law_all.tw14222145142556662505 : True := trivial
theorem Mine.law_all.tw13955646682027860996 : True := trivial
theorem Mine.law_all.tw6628267780710048319 : True := trivial
theorem Mine.law_all.tw17870765948467921550 : True := trivial
theorem Mine.law_all.tw3275827474247852994 : True := trivial
theorem Mine.law_all.tw7881162431508693036 : True := trivial
theorem Mine.law_all.tw16768144245005235482 : True := trivial
theorem Mine.law_all.tw13680609273526107374 : True := trivial
theorem Mine.law_all.tw4312221214654303245 : True := trivial
theorem Mine.law_all.tw12878576852180475762 : True := trivial
theorem Mine.law_all.tw10041133594965264650 : True := trivial
theorem Mine.law_all.tw14306978333734412998 : True := trivial
theorem Mine.law_all.tw2924670171094740670 : True := trivial
theorem Mine.law_all.tw18057137985718396609 : True := trivial
theorem Mine.law_all.tw9682089725965795925 : True := trivial
theorem Mine.law_all.tw14680051335654784553 : True := trivial
theorem Mine.law_all.tw6281480290983300618 : True := trivial
theorem Mine.law_all.tw9112288994732759537 : True := trivial
theorem Mine.law_all.tw2577563808611626836 : True := trivial
theorem Mine.law_all.tw17248258474559860081 : True := trivial
theorem Mine.law_all.tw88744338008619462 : True := trivial
theorem Mine.law_all.tw10635536241202982537 : True := trivial
theorem Mine.law_all.tw8564888430778796407 : True := trivial
theorem Mine.law_all.tw147287198433707135 : True := trivial
theorem Mine.law_all.tw3764594079211352018 : True := trivial
theorem Mine.law_all.tw3116810793124868424 : True := trivial
theorem Mine.law_all.tw15546441815245403988 : True := trivial
theorem Mine.law_all.tw10474069288783402820 : True := trivial
theorem Mine.law_all.tw1941046448484579991 : True := trivial
theorem Mine.law_all.tw15161120417280960535 : True := trivial
theorem Mine.law_all.tw15586044915557591662 : True := trivial
theorem Mine.law_all.tw14599607153788883995 : True := trivial
theorem Mine.law_all.tw12078470571680310831 : True := trivial
theorem Mine.law_all.tw17969530034244639028 : True := trivial
theorem Mine.law_all.tw11421492830896010466 : True := trivial
theorem Mine.law_all.tw17606432771363783360 : True := trivial
theorem Mine.law_all.tw2982699944288580842 : True := trivial
theorem Mine.law_all.tw10754805694788938509 : True := trivial
theorem Mine.law_all.tw13140779808272988157 : True := trivial
theorem Mine.law_all.tw8093475581411736961 : True := trivial
theorem Mine.law_all.tw4048687063676348890 : True := trivial
theorem Mine.law_all.tw5964670041877113058 : True := trivial
theorem Mine.law_all.tw7090190583926799169 : True := trivial
theorem Mine.law_all.tw7690104695833144301 : True := trivial
theorem Mine.law_all.tw17669519193255119196 : True := trivial
theorem Mine.law_all.tw15336482529451251379 : True := trivial
theorem Mine.law_all.tw1646534875598493178 : True := trivial
theorem Mine.law_all.tw1485154726033263068 : True := trivial
theorem Mine.law_all.tw2539981353633615827 : True := trivial
theorem Mine.law_all.tw10152195772459584916 : True := trivial
theorem Mine.law_all.tw9447880567076979900 : True := trivial
theorem Mine.law_all.tw9462809283271141762 : True := trivial
theorem Mine.law_all.tw18235319390762920864 : True := trivial
theorem Mine.law_all.tw4270512862863035808 : True := trivial
theorem Mine.law_all.tw1696500276726984248 : True := trivial
theorem Mine.law_all.tw808926787595212315 : True := trivial
theorem Mine.law_all.tw5881403375008658740 : True := trivial
theorem Mine.law_all.tw8175941863582059467 : True := trivial
theorem Mine.law_all.tw14817745034569102223 : True := trivial
theorem Mine.law_all.tw6755600590273672426 : True := trivial
theorem Mine.law_all.tw1748755634552202416 : True := trivial
theorem Mine.law_all.tw2906490581532596320 : True := trivial
theorem Mine.law_all.tw17585104241551753366 : True := trivial
theorem Mine.law_all.tw10589317585424288234 : True := trivial
theorem Mine.law_all.tw18024192373445878068 : True := trivial
theorem Mine.law_all.tw11379858719792009985 : True := trivial
theorem Mine.law_all.tw12620598019160589179 : True := trivial
theorem Mine.law_all.tw2617532451759129828 : True := trivial
theorem Mine.law_all.tw15146687380694534961 : True := trivial
theorem Mine.law_all.tw2965987889837986908 : True := trivial
theorem Mine.law_all.tw5409939720034131757 : True := trivial
theorem Mine.law_all.tw401616629055616331 : True := trivial
theorem Mine.law_all.tw571745101423254476 : True := trivial
theorem Mine.law_all.tw1189080093081105346 : True := trivial
theorem Mine.law_all.tw6397261156675118401 : True := trivial
theorem Mine.law_all.tw11541454027444291867 : True := trivial
theorem Mine.law_all.tw390498358708893106 : True := trivial
theorem Mine.law_all.tw298556003828902562 : True := trivial
theorem Mine.law_all.tw7554247435833788720 : True := trivial
theorem Mine.law_all.tw2431311244206744821 : True := trivial
theorem Mine.law_all.tw6038085552947697086 : True := trivial
theorem Mine.law_all.tw6160080969221487542 : True := trivial
theorem Mine.law_all.tw14831206303057345538 : True := trivial
theorem Mine.law_all.tw3342747189937667127 : True := trivial
theorem Mine.law_all.tw7765527865837770668 : True := trivial
theorem Mine.law_all.tw9101883533985367949 : True := trivial
theorem Mine.law_all.tw15671280296326744443 : True := trivial
theorem Mine.law_all.tw9895718714931393807 : True := trivial
theorem Mine.law_all.tw6237155331754066022 : True := trivial
theorem Mine.law_all.tw10416063536870402424 : True := trivial
theorem Mine.law_all.tw18272266722473543086 : True := trivial
theorem Mine.law_all.tw15414137240233699022 : True := trivial
theorem Mine.law_all.tw16669387040374730769 : True := trivial
theorem Mine.law_all.tw2113808404335124552 : True := trivial
theorem Mine.law_all.tw11373430062764667247 : True := trivial
theorem Mine.law_all.tw2747623398821866450 : True := trivial
theorem Mine.law_all.tw6378717016339408911 : True := trivial
theorem Mine.law_all.tw7539104779076750295 : True := trivial
theorem Mine.law_all.tw1195523087049108795 : True := trivial
theorem Mine.law_all.tw8399003694265948756 : True := trivial
theorem Mine.law_all.tw450456051597042649 : True := trivial
theorem Mine.law_all.tw3241033389818516246 : True := trivial
theorem Mine.law_all.tw4299841220277086336 : True := trivial
theorem Mine.law_all.tw10082115955702963577 : True := trivial
theorem Mine.law_all.tw2862211712955723747 : True := trivial
theorem Mine.law_all.tw15894988515832802272 : True := trivial
theorem Mine.law_all.tw11161673737740280770 : True := trivial
theorem Mine.law_all.tw7913414452795691321 : True := trivial
theorem Mine.law_all.tw8378616637936851624 : True := trivial
theorem Mine.law_all.tw9405689241106513495 : True := trivial
theorem Mine.law_all.tw1462358456018306731 : True := trivial
theorem Mine.law_all.tw4054552316874386740 : True := trivial
theorem Mine.law_all.tw11570621344050687362 : True := trivial
theorem Mine.law_all.tw1343695993253210297 : True := trivial
theorem Mine.law_all.tw5564237334548157303 : True := trivial
theorem Mine.law_all.tw12942184054927948311 : True := trivial
theorem Mine.law_all.tw16118133896454242471 : True := trivial
theorem Mine.law_all.tw15888606964102597316 : True := trivial
theorem Mine.law_all.tw6422183658796698897 : True := trivial
theorem Mine.law_all.tw17737764639412749679 : True := trivial
theorem Mine.law_all.tw11516134287502957769 : True := trivial
theorem Mine.law_all.tw8068670141169891791 : True := trivial
theorem Mine.law_all.tw9000883745109673501 : True := trivial
theorem Mine.law_all.tw11527891035238042781 : True := trivial
theorem Mine.law_all.tw753871570185349790 : True := trivial
theorem Mine.law_all.tw9339400996390342628 : True := trivial
theorem Mine.law_all.tw7247926347573934118 : True := trivial
theorem Mine.law_all.tw8803404886157929299 : True := trivial
theorem Mine.law_all.tw16819984471793681257 : True := trivial
theorem Mine.law_all.tw550076807988554015 : True := trivial
theorem Mine.law_all.tw2454280419872470169 : True := trivial
theorem Mine.law_all.tw9504067815950663498 : True := trivial
theorem Mine.law_all.tw7791761455036148250 : True := trivial
theorem Mine.law_all.tw14598207043298650064 : True := trivial
theorem Mine.law_all.tw6829346939798277260 : True := trivial
theorem Mine.law_all.tw699081443379234643 : True := trivial
theorem Mine.law_all.tw15844257298622311405 : True := trivial
theorem Mine.law_all.tw14591837725140855343 : True := trivial
theorem Mine.law_all.tw17293483708993535449 : True := trivial
theorem Mine.law_all.tw13253971527945154862 : True := trivial
theorem Mine.law_all.tw18098063318637971162 : True := trivial
theorem Mine.law_all.tw16844301800673861149 : True := trivial
theorem Mine.law_all.tw18236519589282089527 : True := trivial
theorem Mine.law_all.tw1172793060472301760 : True := trivial
theorem Mine.law_all.tw7320585726020715318 : True := trivial
theorem Mine.law_all.tw144113969167408035 : True := trivial
theorem Mine.law_all.tw3936332338030081361 : True := trivial
theorem Mine.law_all.tw8518996810716976194 : True := trivial
theorem Mine.law_all.tw11276032279946435343 : True := trivial
theorem Mine.law_all.tw1376570501437681816 : True := trivial
theorem Mine.law_all.tw13284267574609153846 : True := trivial
theorem Mine.law_all.tw9715068110327944835 : True := trivial
theorem Mine.law_all.tw14435836088163181261 : True := trivial
theorem Mine.law_all.tw2253686190644405003 : True := trivial
theorem Mine.law_all.tw2310117848358827485 : True := trivial
theorem Mine.law_all.tw670697118951388126 : True := trivial
theorem Mine.law_all.tw7206139752427571534 : True := trivial
theorem Mine.law_all.tw17879881856010532143 : True := trivial
theorem Mine.law_all.tw7358765618238378763 : True := trivial
theorem Mine.law_all.tw8814184745475322185 : True := trivial
theorem Mine.law_all.tw18019929789766518222 : True := trivial
theorem Mine.law_all.tw13456863692723816207 : True := trivial
theorem Mine.law_all.tw4298414287522497693 : True := trivial
theorem Mine.law_all.tw2234524100257708063 : True := trivial
theorem Mine.law_all.tw17547520148116901912 : True := trivial
theorem Mine.law_all.tw7680916366514936674 : True := trivial
theorem Mine.law_all.tw4728599345574348774 : True := trivial
theorem Mine.law_all.tw1155645803786910667 : True := trivial
theorem Mine.law_all.tw13573102627690589801 : True := trivial
theorem Mine.law_all.tw1325725505073848231 : True := trivial
theorem Mine.law_all.tw13126924672156596446 : True := trivial
theorem Mine.law_all.tw13509177966542993873 : True := trivial
theorem Mine.law_all.tw8347406222979154285 : True := trivial
theorem Mine.law_all.tw7702720457695366031 : True := trivial
theorem Mine.law_all.tw9385311596571155968 : True := trivial
theorem Mine.law_all.tw5133684288058214382 : True := trivial
theorem Mine.law_all.tw5234447947421495549 : True := trivial
theorem Mine.law_all.tw8059288581424842436 : True := trivial
theorem Mine.law_all.tw11331813773473021967 : True := trivial
theorem Mine.law_all.tw9193932539253619566 : True := trivial
theorem Mine.law_all.tw4520348996882111033 : True := trivial
theorem Mine.law_all.tw7893887008874934858 : True := trivial
theorem Mine.law_all.tw6236118766085468272 : True := trivial
theorem Mine.law_all.tw5415215016402467412 : True := trivial
theorem Mine.law_all.tw6529279197570483795 : True := trivial
theorem Mine.law_all.tw15746133877532336623 : True := trivial
theorem Mine.law_all.tw6442390396111978729 : True := trivial
theorem Mine.law_all.tw13707208606822203510 : True := trivial
theorem Mine.law_all.tw587449342414447963 : True := trivial
theorem Mine.law_all.tw5214331894307755913 : True := trivial
theorem Mine.law_all.tw15955814874369106537 : True := trivial
theorem Mine.law_all.tw3813564530132189172 : True := trivial
theorem Mine.law_all.tw17894447663895493757 : True := trivial
theorem Mine.law_all.tw16011759601916289475 : True := trivial
theorem Mine.law_all.tw2662628459423469990 : True := trivial
theorem Mine.law_all.tw1134505771618074870 : True := trivial
theorem Mine.law_all.tw5315506903917589002 : True := trivial
theorem Mine.law_all.tw6738363049555094938 : True := trivial
theorem Mine.law_all.tw2795527421740472226 : True := trivial
theorem Mine.law_all.tw8182643449472363497 : True := trivial
theorem Mine.law_all.tw7119508329715715523 : True := trivial
theorem Mine.law_all.tw16962350897556312332 : True := trivial
theorem Mine.law_all.tw87554848720477697 : True := trivial
theorem Mine.law_all.tw7831887952337321200 : True := trivial
theorem Mine.law_all.tw2202764407437257358 : True := trivial
theorem Mine.law_all.tw14829923604676511662 : True := trivial
theorem Mine.law_all.tw11945523544114663292 : True := trivial
theorem Mine.law_all.tw2899457639284417968 : True := trivial
theorem Mine.law_all.tw8990330740181145737 : True := trivial
theorem Mine.law_all.tw14264949915988352486 : True := trivial
theorem Mine.law_all.tw11628095284720837169 : True := trivial
theorem Mine.law_all.tw1770321641891747666 : True := trivial
theorem Mine.law_all.tw17994726235332625280 : True := trivial
theorem Mine.law_all.tw17009404168889603793 : True := trivial
theorem Mine.law_all.tw16903961797545972891 : True := trivial
theorem Mine.law_all.tw14955915058466119356 : True := trivial
theorem Mine.law_all.tw14375837930296264146 : True := trivial
theorem Mine.law_all.tw10132980813947130738 : True := trivial
theorem Mine.law_all.tw5495784557159034327 : True := trivial
theorem Mine.law_all.tw2546207491649054136 : True := trivial
theorem Mine.law_all.tw10620959191045113335 : True := trivial
theorem Mine.law_all.tw6157751959391354502 : True := trivial
theorem Mine.law_all.tw8718603462263403589 : True := trivial
theorem Mine.law_all.tw4354770290612424148 : True := trivial
theorem Mine.law_all.tw7914111920488281241 : True := trivial
theorem Mine.law_all.tw17025013958437641781 : True := trivial
theorem Mine.law_all.tw3358472159093845929 : True := trivial
theorem Mine.law_all.tw14142368258859480080 : True := trivial
theorem Mine.law_all.tw12272814491482326452 : True := trivial
theorem Mine.law_all.tw10699485395619107383 : True := trivial
theorem Mine.law_all.tw4706784108104460177 : True := trivial
theorem Mine.law_all.tw9815803367523510294 : True := trivial
theorem Mine.law_all.tw4221142147964649119 : True := trivial
theorem Mine.law_all.tw5480159453071252461 : True := trivial
theorem Mine.law_all.tw12733029705023595350 : True := trivial
theorem Mine.law_all.tw12308792829718365582 : True := trivial
theorem Mine.law_all.tw5368372463894450783 : True := trivial
theorem Mine.law_all.tw11780552165158174459 : True := trivial
theorem Mine.law_all.tw11499723639459963570 : True := trivial
theorem Mine.law_all.tw456885184704423047 : True := trivial
theorem Mine.law_all.tw4767623398743609812 : True := trivial
theorem Mine.law_all.tw12056103759676145562 : True := trivial
theorem Mine.law_all.tw11344874559957333639 : True := trivial
theorem Mine.law_all.tw697804852917623427 : True := trivial
theorem Mine.law_all.tw5970844899898935343 : True := trivial
theorem Mine.law_all.tw10143031176177733864 : True := trivial
theorem Mine.law_all.tw17970757394946253910 : True := trivial
theorem Mine.law_all.tw9484003277438265565 : True := trivial
theorem Mine.law_all.tw2921730017392566355 : True := trivial
theorem Mine.law_all.tw17118986888630616858 : True := trivial
theorem Mine.law_all.tw8426454859378444244 : True := trivial
theorem Mine.law_all.tw1899502164790749458 : True := trivial
theorem Mine.law_all.tw13928278647878734309 : True := trivial
theorem Mine.law_all.tw10492806786580578284 : True := trivial
theorem Mine.law_all.tw13662883176790347504 : True := trivial
theorem Mine.law_all.tw15978949696629488146 : True := trivial
theorem Mine.law_all.tw12692521775855915814 : True := trivial
theorem Mine.law_all.tw978204252779252794 : True := trivial
theorem Mine.law_all.tw13171468961803394345 : True := trivial
theorem Mine.law_all.tw9526463903346643153 : True := trivial
theorem Mine.law_all.tw14381365239966274286 : True := trivial
theorem Mine.law_all.tw3178316337248908353 : True := trivial
theorem Mine.law_all.tw8224182919288875669 : True := trivial
theorem Mine.law_all.tw9372167265927652766 : True := trivial
theorem Mine.law_all.tw116477658778600319 : True := trivial
theorem Mine.law_all.tw11844059635380801397 : True := trivial
theorem Mine.law_all.tw1479220743327157826 : True := trivial
theorem Mine.law_all.tw17204981761803003489 : True := trivial
theorem Mine.law_all.tw17423994124011686517 : True := trivial
theorem Mine.law_all.tw4118192364197012240 : True := trivial
theorem Mine.law_all.tw4322978343721434318 : True := trivial
theorem Mine.law_all.tw5123302808915844946 : True := trivial
theorem Mine.law_all.tw6438830307732024469 : True := trivial
theorem Mine.law_all.tw8723218627587633102 : True := trivial
theorem Mine.law_all.tw16651006203443513197 : True := trivial
theorem Mine.law_all.tw10250544082008050651 : True := trivial
theorem Mine.law_all.tw15427931746332374070 : True := trivial
theorem Mine.law_all.tw7521826775273887693 : True := trivial
theorem Mine.law_all.tw4310718505664016985 : True := trivial
theorem Mine.law_all.tw17491269327052831879 : True := trivial
theorem Mine.law_all.tw2222952681925917930 : True := trivial
theorem Mine.law_all.tw18228451960930216718 : True := trivial
theorem Mine.law_all.tw13522768611430641604 : True := trivial
theorem Mine.law_all.tw17167370007966241821 : True := trivial
theorem Mine.law_all.tw14832577517017574144 : True := trivial
theorem Mine.law_all.tw3825936540422273863 : True := trivial
theorem Mine.law_all.tw1564792174963846901 : True := trivial
theorem Mine.law_all.tw16132189220444017940 : True := trivial
theorem Mine.law_all.tw12162759631566370067 : True := trivial
theorem Mine.law_all.tw4527195061187594670 : True := trivial
theorem Mine.law_all.tw3206805621277776192 : True := trivial
theorem Mine.law_all.tw7672995546314809169 : True := trivial
theorem Mine.law_all.tw9281404008301498739 : True := trivial
theorem Mine.law_all.tw6649969067901403340 : True := trivial
theorem Mine.law_all.tw15186910425931473683 : True := trivial
theorem Mine.law_all.tw505844514383608538 : True := trivial
theorem Mine.law_all.tw7343335850631077457 : True := trivial
theorem Mine.law_all.tw49386822889696764 : True := trivial
theorem Mine.law_all.tw2744981985473423791 : True := trivial
theorem Mine.law_all.tw2081400668093259977 : True := trivial
theorem Mine.law_all.tw15917809590553049049 : True := trivial
theorem Mine.law_all.tw1100412207481686545 : True := trivial
theorem Mine.law_all.tw13698209543225463622 : True := trivial
theorem Mine.law_all.tw3944966475094738777 : True := trivial
theorem Mine.law_all.tw17367182206784257886 : True := trivial
theorem Mine.law_all.tw7555395380386181586 : True := trivial
theorem Mine.law_all.tw15823504312377517234 : True := trivial
theorem Mine.law_all.tw8144562630861866219 : True := trivial
theorem Mine.law_all.tw11256467734840833315 : True := trivial
theorem Mine.law_all.tw6639514252621566363 : True := trivial
theorem Mine.law_all.tw10092212651508181671 : True := trivial
theorem Mine.law_all.tw10355209187767673200 : True := trivial
theorem Mine.law_all.tw11645036861229193933 : True := trivial
theorem Mine.law_all.tw11950564495300238953 : True := trivial
theorem Mine.law_all.tw12018861332955856530 : True := trivial
theorem Mine.law_all.tw12247398745213465826 : True := trivial
theorem Mine.law_all.tw12485393647227945402 : True := trivial
theorem Mine.law_all.tw1270322770108976961 : True := trivial
theorem Mine.law_all.tw1294855798985786495 : True := trivial
theorem Mine.law_all.tw13140519786740650072 : True := trivial
theorem Mine.law_all.tw13288071306723581143 : True := trivial
theorem Mine.law_all.tw13523418062013228558 : True := trivial
theorem Mine.law_all.tw14232367337319313231 : True := trivial
theorem Mine.law_all.tw15061830248806686431 : True := trivial
theorem Mine.law_all.tw1536466687738809822 : True := trivial
theorem Mine.law_all.tw1605926451748883982 : True := trivial
theorem Mine.law_all.tw16164118054612635186 : True := trivial
theorem Mine.law_all.tw16724615851476500005 : True := trivial
theorem Mine.law_all.tw16829598718399601788 : True := trivial
theorem Mine.law_all.tw17193921254550333962 : True := trivial
theorem Mine.law_all.tw17936130361250110869 : True := trivial
theorem Mine.law_all.tw18041836178462933985 : True := trivial
theorem Mine.law_all.tw1822193252918744523 : True := trivial
theorem Mine.law_all.tw18271015955350124165 : True := trivial
theorem Mine.law_all.tw2631628752055362666 : True := trivial
theorem Mine.law_all.tw3278616100580146713 : True := trivial
theorem Mine.law_all.tw3573340081450625464 : True := trivial
theorem Mine.law_all.tw3665484915411088083 : True := trivial
theorem Mine.law_all.tw3694351898582876921 : True := trivial
theorem Mine.law_all.tw391340077780216222 : True := trivial
theorem Mine.law_all.tw392157893591706145 : True := trivial
theorem Mine.law_all.tw3924797017141402407 : True := trivial
theorem Mine.law_all.tw4011130107991819787 : True := trivial
theorem Mine.law_all.tw4416124102532421093 : True := trivial
theorem Mine.law_all.tw4469509312023483314 : True := trivial
theorem Mine.law_all.tw451512973457695194 : True := trivial
theorem Mine.law_all.tw4755258198134130943 : True := trivial
theorem Mine.law_all.tw4767544424974957542 : True := trivial
theorem Mine.law_all.tw4969457626559569432 : True := trivial
theorem Mine.law_all.tw5341963815596595863 : True := trivial
theorem Mine.law_all.tw5606647511850069095 : True := trivial
theorem Mine.law_all.tw5769454105433524467 : True := trivial
theorem Mine.law_all.tw644590359430075232 : True := trivial
theorem Mine.law_all.tw6514298221923599796 : True := trivial
theorem Mine.law_all.tw6567813324483764927 : True := trivial
theorem Mine.law_all.tw7227878493039989945 : True := trivial
theorem Mine.law_all.tw7250216617388656809 : True := trivial
theorem Mine.law_all.tw8102590376130340518 : True := trivial
theorem Mine.law_all.tw8689406086219333336 : True := trivial
theorem Mine.law_all.tw8728232868735216457 : True := trivial
theorem Mine.law_all.tw9511935718328076245 : True := trivial
theorem Mine.law_all.tw9519570101095330979 : True := trivial
theorem Mine.law_all.tw357486453476387696 : True := trivial
set_option Elab.async true in
theorem Mine.law_all : PySem.Challenge.rw_kq0019_02.Holds := by
  w_on
  o_law
  o_head (kHook Mine.hd.heap_1 [2, 3, 33, 35, 36, 38, 39, 40, 42, 43, 45, 46, 47, 49, 50, 52, 53, 54, 61, 62, 63, 64, 74, 76, 77, 79, 80, 81, 82, 83, 84, 85, 86, 89, 96, 97, 98, 101, 108, 109, 110, 113, 120, 121, 123, 124, 126, 127, 128, 130, 131, 133, 134, 135, 137, 138, 140, 141, 142, 144, 145, 147, 148, 149, 150, 152, 153, 155, 156, 157, 159, 160, 162, 163, 164, 166, 167, 169, 170, 171, 173, 174, 176, 177, 178, 180, 181, 183, 184, 185, 187, 188, 190, 191, 192, 194, 195, 197, 198, 199, 201, 202, 204, 205, 206, 208, 209, 211, 212, 213, 215, 216, 218, 219, 220, 222, 223, 225, 226, 227, 229, 230, 232, 233, 234, 236, 237, 239, 240, 241, 242, 244, 245, 247, 248, 249, 250, 252, 253, 255, 256, 257, 258, 260, 261, 263, 264, 265, 266, 268, 269, 271, 272, 273, 275, 276, 278, 279, 280, 282, 283, 285, 286, 287, 288, 290, 291, 293, 294, 295, 296, 298, 299, 301, 302, 303, 305, 306, 308, 309, 310, 312, 313, 315, 316, 317, 319, 320, 322, 323, 324, 326, 327, 329, 330, 331, 333, 334, 336, 337, 338, 339, 340, 343, 350, 351, 353, 354, 356, 357, 358, 360, 361, 363, 364, 365, 367, 368, 370, 371, 372, 374, 375, 377, 378, 379, 381, 382, 384, 385, 386, 388, 389, 391, 392, 393, 394, 396, 397, 399, 400, 401, 402, 404, 405, 407, 408, 409, 410, 412, 413, 415, 416, 417, 418, 420, 421, 423, 424, 425, 426, 428, 429, 431, 432, 433, 435, 436, 438, 439, 440, 442, 443, 445, 446, 447, 449, 450, 452, 453, 454, 456, 457, 459, 460, 461, 463, 464, 466, 467, 468, 470, 471, 473, 474, 475, 477, 478, 480, 481, 482, 484, 485, 487, 488, 489, 491, 492, 494, 495, 496, 498, 499, 501, 502, 503, 505, 506, 508, 509, 510, 511, 513, 514, 516, 517, 518, 519, 521, 522, 524, 525, 526, 527, 529, 530, 532, 533, 534, 535, 537, 538, 540, 541, 542, 543, 545, 546, 548, 549, 550, 552, 553, 555, 556, 557, 559, 560, 562, 563, 564, 566, 567, 569, 570, 571, 573, 574, 576, 577, 578, 580, 581, 583, 584, 585, 586, 587, 590, 592, 593, 595, 596, 597, 599, 600, 602, 603, 604, 606, 607, 609, 610, 611, 613, 614, 616, 617, 618, 620, 621, 623, 624, 625, 627, 628, 630, 631, 639, 640, 642, 643, 645, 646, 647, 649, 650, 652, 653, 654, 655, 657, 658, 660, 661, 662, 663, 665, 666, 668, 669, 670, 672, 673, 675, 676, 677, 679, 680, 682, 683, 684, 686, 687, 689, 690, 691, 693, 694, 696, 697, 698, 699, 701, 702, 704, 705, 706, 708, 709, 711, 712, 713, 715, 716, 718, 719, 720, 721, 722, 723, 724, 727, 729, 730, 732, 733, 734, 736, 737, 739, 740, 741, 743, 744, 746, 747, 748, 751, 752] (fun _ => by kernel_rfl))
  (case hw => w_witness2)
  (apply Mine.free; (case a => exact trivial); (case b => exact trivial); (case c => exact trivial); (case d => exact trivial); (case e => exact trivial); (case f => exact trivial); (case g => exact trivial); (case h => exact trivial); (case i => exact trivial); (case j => exact trivial); (case k => exact trivial); (case l => exact trivial); (case m => exact trivial); (case n => exact trivial); (case o => exact trivial); (case q => exact trivial); (case r => exact trivial); (case s => exact trivial); (case t => exact trivial); (case u => exact trivial); (case v => exact trivial); (case w => exact trivial); (case x => exact trivial); (case y => exact trivial); (case z => exact trivial); (case A => exact trivial); (case B => exact trivial); (case C => exact trivial); (case D => exact trivial); (case E => exact trivial); (case F => exact trivial); (case G => exact trivial); (case H => exact trivial); (case I => exact trivial); (case J => exact trivial); (case K => exact trivial); (case L => exact trivial); (case M => exact trivial); (case N => exact trivial); (case O => exact trivial); (case P => exact trivial); (case Q => exact trivial); (case R => exact trivial); (case S => exact trivial); (case T => exact trivial); (case U => exact trivial); (case V => exact trivial); (case W => exact trivial); (case X => exact trivial); (case Y => exact trivial); (case Z => exact trivial); (case e1 => exact trivial); (case e2 => exact trivial); (case e3 => exact trivial); (case e4 => exact trivial); (case e5 => exact trivial); (case e6 => exact trivial); (case e7 => exact trivial); (case e8 => exact trivial); (case e9 => exact trivial); (case e10 => exact trivial); (case k1 => exact trivial); (case k2 => exact trivial); (case k3 => exact trivial); (case k4 => exact trivial); (case k5 => exact trivial); (case k6 => exact trivial); (case k7 => exact trivial); (case k8 => exact trivial); (case k9 => exact trivial); (case k10 => exact trivial); (case k11 => exact trivial); (case k12 => exact trivial); (case k13 => exact trivial); (case k14 => exact trivial); (case k15 => exact trivial); (case h1 => exact trivial); (case h2 => exact trivial); (case h3 => exact trivial); (case h4 => exact trivial); (case h5 => exact trivial); (case h6 => exact trivial); (case hr => exact trivial); (case hp => exact trivial); (case hi => exact trivial); (case hv => exact trivial); (case hz => exact trivial); (case sz => exact trivial); (case sub => exact trivial); (case hQ => exact trivial); (case hE => exact trivial); (case hP => exact trivial); (case hC => exact trivial); (case hx => exact trivial); (case ka => exact trivial); (case kb => exact trivial))
  k_go0
  all_goals try k_fold
  (repeat' (first | (k_unfold; (try dsimp only)) | ((fail_if_success (with_reducible show wpAny _ _ (execs (Stmt.If _ _ _ _ :: _) _) _ _ _)); walk1)))
  rename World => w
  rename Fr _ _ _ _ => F1
  rename News _ _ _ _ => N1
  rename IntsAre _ _ => hi1
  rename @Ne Nat _ _ ∧ @Ne Nat _ _ => hne1
  refine Mine.lw_if F1 N1 ?h1 ?h2
  case h1 =>
    k_steps
    · refine' Mine.lw_mid ?F ?N ?i ?e1 ?e2 ?e3 ?e4 ?sub
      case F => assumption
      case N => assumption
      case e3 => exact if_pos rfl
      case sub => exact List.forall_mem_cons.mpr ⟨List.Mem.head _, List.forall_mem_cons.mpr ⟨by k_mem, List.forall_mem_nil _⟩⟩
      case i => exact .cons 0 _ .nil
      case e1 => simp
      case e2 => simp
      case e4 =>
        rename _ ∧ _ ∧ _ ∧ _ => hl
        exact Nat.ne_of_lt hl.2.2.2
    · refine' Mine.lw_mid ?F ?N ?i ?e1 ?e2 ?e3 ?e4 ?sub
      case F => assumption
      case N => assumption
      case e3 => exact if_pos rfl
      case sub => exact List.forall_mem_cons.mpr ⟨List.Mem.tail _ (List.Mem.head _), List.forall_mem_cons.mpr ⟨by k_mem, List.forall_mem_nil _⟩⟩
      case i => exact hi1
      case e1 => exact of_decide_eq_false (by assumption)
      case e2 => simp only [List.length_map]; omega
      case e4 => exact hne1.2
  case h2 =>
    clear F1 N1 hi1 hne1
    intro h2 tk2 D vs nums nn m2 F2 N2 hi2 hne2 hlen2 hcD
    cases hi2 with
    | nil => exact absurd rfl hne2
    | cons n0 t0 hi2 =>
    (repeat' (first | (k_unfold; (try dsimp only)) | ((fail_if_success (with_reducible show wpAny _ _ (call (Value.ref 740) _) _ _ _)); walk1)))
    rename List Nat => x
    rename ∀ c ∈ x, Mine.Good c => hxg
    rename x.length ≤ 9 * _ => hxl
    have hx2 : x.length ≤ 400 := by simp only [List.length_cons] at *; omega
    have hx3 : (Mine.S x).length ≤ 100000 := by rw [Mine.S_length]; omega
    generalize (((n0 :: _).getD (Int.toNat 0) 0).fmod 2 == 1) = b at *
    refine' Mine.nocom ?k1 ?k2 ?k3 ?k4 ?k5 ?k6 hx3 ?k8 ?_
    case k8 => k_asm
    case k1 => k_asm
    case k2 => k_asm
    case k3 => k_asm
    case k4 => k_asm
    case k5 => k_room
    case k6 => k_units
    intro h3 t3 k3 F3 N3
    obtain ⟨m3, oa, ga, va, xt, N3, l1, l2, l3, l4, l5, F3, e1, e2, e3, e4, e5⟩ := Mine.sl_gen F3 N3 (by assumption) (by assumption)
    refine KStt.kst_text (σ := Mine.GS) (Mine.gsLed oa ga [(D, listOf va nn), (_, _)]) (Mine.gsPs oa ga x xt b) (fun _ => True) [Str.ofString "letter"] (Mine.GInv (fun c => (Mine.WC b).cps.toList.contains c)) ⟨[], 0, [], 0, false⟩ rfl F3 N3 trivial ?_ ?_ ?_ ?_
    · intro p hp
      simp only [List.mem_cons, List.not_mem_nil, or_false] at hp
      rcases hp with rfl | rfl | rfl | rfl | rfl <;> assumption
    · exact ⟨.nil, .nil, rfl⟩
    · rintro ⟨gv, gn, ov, on, bf⟩ pre post n t u h tk own hns hoff _ hI F4 N4
      dsimp only [Mine.gsLed, Mine.gsPs] at F4 N4
      have hpre : pre.length ≤ 1000 := by
        have h7 := congrArg List.length hns
        rw [KStt.codes_length, Mine.S_length] at h7
        have h8 := Mine.cf_len b false (Mine.S x).cps.toList
        have h9 : (Mine.S x).cps.toList.length = x.length := by simp [Mine.S]
        simp only [List.length_append, List.length_cons] at h7
        omega
      have hgl := Mine.ginv_len hI
      dsimp only at hgl
      clear F3 N3
      cases hW : (Mine.WC b).cps.toList.contains n with
      | true =>
        cases bf with
        | true =>
          obtain ⟨us, l, t1, hg, hll, hI2⟩ := Mine.ginv_tt hI rfl
          dsimp only at hg
          subst hg
          (repeat' (first | (k_unfold; (try dsimp only)) | ((fail_if_success (with_reducible show wpAny _ _ (exec (Stmt.AugAssign _ _ _ _) _) _ _ _)); walk1)))
          (repeat' (first | (k_unfold; (try dsimp only)) | ((fail_if_success (with_reducible show wpAny _ _ (getItem _ _) _ _ _)); walk1)))
          dsimp only
          rename News _ _ _ _ => N5
          refine' Mine.gs_get (us := us) (ga := ga) N5 (List.Mem.tail _ (List.Mem.head _)) ?_
          (repeat' (first | (k_unfold; (try dsimp only)) | ((fail_if_success (with_reducible show wpAny _ _ (setItem _ _ _) _ _ _)); walk1)))
          rename Fr _ _ _ _ => F6
          rename News _ _ _ _ => N6
          refine' Mine.gs_set (us := us) (ga := ga) F6 N6 ?U ?_
          case U => k_upd
          intro h6 F7 N7
          clear F6 N6
          k_steps
          (refine' Mine.gs_end ?F ?N ?hN ?eo ?eg ?h0 ?h1 ?h3 ?h4 ?h5 ?hr ?had _; (case F => assumption); (case N => assumption); (case hN => first | exact fun p hp => hp | exact (fun p hp => List.Mem.tail _ hp) | exact (fun p hp => List.Mem.tail _ (List.Mem.tail _ hp))); (case h0 => (simp only [kstB, Mine.gne_before_over, Mine.gne_before_given, Mine.gne_before_text, Mine.gne_before_posix, Mine.gne_before_letter, Mine.gne_before_sign, Mine.gne_over_before, Mine.gne_over_given, Mine.gne_over_text, Mine.gne_over_posix, Mine.gne_over_letter, Mine.gne_over_sign, Mine.gne_given_before, Mine.gne_given_over, Mine.gne_given_text, Mine.gne_given_posix, Mine.gne_given_letter, Mine.gne_given_sign, Mine.gne_text_before, Mine.gne_text_over, Mine.gne_text_given, Mine.gne_text_posix, Mine.gne_text_letter, Mine.gne_text_sign, Mine.gne_posix_before, Mine.gne_posix_over, Mine.gne_posix_given, Mine.gne_posix_text, Mine.gne_posix_letter, Mine.gne_posix_sign, Mine.gne_letter_before, Mine.gne_letter_over, Mine.gne_letter_given, Mine.gne_letter_text, Mine.gne_letter_posix, Mine.gne_letter_sign, Mine.gne_sign_before, Mine.gne_sign_over, Mine.gne_sign_given, Mine.gne_sign_text, Mine.gne_sign_posix, Mine.gne_sign_letter, if_true, if_false]; try rfl)); (case h1 => (simp only [kstB, Mine.gne_before_over, Mine.gne_before_given, Mine.gne_before_text, Mine.gne_before_posix, Mine.gne_before_letter, Mine.gne_before_sign, Mine.gne_over_before, Mine.gne_over_given, Mine.gne_over_text, Mine.gne_over_posix, Mine.gne_over_letter, Mine.gne_over_sign, Mine.gne_given_before, Mine.gne_given_over, Mine.gne_given_text, Mine.gne_given_posix, Mine.gne_given_letter, Mine.gne_given_sign, Mine.gne_text_before, Mine.gne_text_over, Mine.gne_text_given, Mine.gne_text_posix, Mine.gne_text_letter, Mine.gne_text_sign, Mine.gne_posix_before, Mine.gne_posix_over, Mine.gne_posix_given, Mine.gne_posix_text, Mine.gne_posix_letter, Mine.gne_posix_sign, Mine.gne_letter_before, Mine.gne_letter_over, Mine.gne_letter_given, Mine.gne_letter_text, Mine.gne_letter_posix, Mine.gne_letter_sign, Mine.gne_sign_before, Mine.gne_sign_over, Mine.gne_sign_given, Mine.gne_sign_text, Mine.gne_sign_posix, Mine.gne_sign_letter, if_true, if_false]; try rfl)); (case h3 => (simp only [kstB, Mine.gne_before_over, Mine.gne_before_given, Mine.gne_before_text, Mine.gne_before_posix, Mine.gne_before_letter, Mine.gne_before_sign, Mine.gne_over_before, Mine.gne_over_given, Mine.gne_over_text, Mine.gne_over_posix, Mine.gne_over_letter, Mine.gne_over_sign, Mine.gne_given_before, Mine.gne_given_over, Mine.gne_given_text, Mine.gne_given_posix, Mine.gne_given_letter, Mine.gne_given_sign, Mine.gne_text_before, Mine.gne_text_over, Mine.gne_text_given, Mine.gne_text_posix, Mine.gne_text_letter, Mine.gne_text_sign, Mine.gne_posix_before, Mine.gne_posix_over, Mine.gne_posix_given, Mine.gne_posix_text, Mine.gne_posix_letter, Mine.gne_posix_sign, Mine.gne_letter_before, Mine.gne_letter_over, Mine.gne_letter_given, Mine.gne_letter_text, Mine.gne_letter_posix, Mine.gne_letter_sign, Mine.gne_sign_before, Mine.gne_sign_over, Mine.gne_sign_given, Mine.gne_sign_text, Mine.gne_sign_posix, Mine.gne_sign_letter, if_true, if_false]; try rfl)); (case h4 => (simp only [kstB, Mine.gne_before_over, Mine.gne_before_given, Mine.gne_before_text, Mine.gne_before_posix, Mine.gne_before_letter, Mine.gne_before_sign, Mine.gne_over_before, Mine.gne_over_given, Mine.gne_over_text, Mine.gne_over_posix, Mine.gne_over_letter, Mine.gne_over_sign, Mine.gne_given_before, Mine.gne_given_over, Mine.gne_given_text, Mine.gne_given_posix, Mine.gne_given_letter, Mine.gne_given_sign, Mine.gne_text_before, Mine.gne_text_over, Mine.gne_text_given, Mine.gne_text_posix, Mine.gne_text_letter, Mine.gne_text_sign, Mine.gne_posix_before, Mine.gne_posix_over, Mine.gne_posix_given, Mine.gne_posix_text, Mine.gne_posix_letter, Mine.gne_posix_sign, Mine.gne_letter_before, Mine.gne_letter_over, Mine.gne_letter_given, Mine.gne_letter_text, Mine.gne_letter_posix, Mine.gne_letter_sign, Mine.gne_sign_before, Mine.gne_sign_over, Mine.gne_sign_given, Mine.gne_sign_text, Mine.gne_sign_posix, Mine.gne_sign_letter, if_true, if_false]; try rfl)); (case h5 => (simp only [kstB, Mine.gne_before_over, Mine.gne_before_given, Mine.gne_before_text, Mine.gne_before_posix, Mine.gne_before_letter, Mine.gne_before_sign, Mine.gne_over_before, Mine.gne_over_given, Mine.gne_over_text, Mine.gne_over_posix, Mine.gne_over_letter, Mine.gne_over_sign, Mine.gne_given_before, Mine.gne_given_over, Mine.gne_given_text, Mine.gne_given_posix, Mine.gne_given_letter, Mine.gne_given_sign, Mine.gne_text_before, Mine.gne_text_over, Mine.gne_text_given, Mine.gne_text_posix, Mine.gne_text_letter, Mine.gne_text_sign, Mine.gne_posix_before, Mine.gne_posix_over, Mine.gne_posix_given, Mine.gne_posix_text, Mine.gne_posix_letter, Mine.gne_posix_sign, Mine.gne_letter_before, Mine.gne_letter_over, Mine.gne_letter_given, Mine.gne_letter_text, Mine.gne_letter_posix, Mine.gne_letter_sign, Mine.gne_sign_before, Mine.gne_sign_over, Mine.gne_sign_given, Mine.gne_sign_text, Mine.gne_sign_posix, Mine.gne_sign_letter, if_true, if_false]; try rfl)); (case hr => (intro z z1 z2 z3 z4 z5 z6 z7; have z8 : [Str.ofString "letter"].contains z = false := (by simp only [List.contains_cons, List.contains_nil, Bool.or_false]; exact beq_eq_false_iff_ne.mpr z7); simp only [kstB, z1, z2, z3, z4, z5, z6, z7, z8, if_false, Bool.false_eq_true])); (case eo => first | exact List.push_toArray _ _ | exact rfl); (case eg => first | exact List.push_toArray _ _ | exact rfl); (case had => exact rfl))
          exact hI2 _ _ _ hW
        | false =>
          k_steps
          (refine' Mine.gs_end ?F ?N ?hN ?eo ?eg ?h0 ?h1 ?h3 ?h4 ?h5 ?hr ?had _; (case F => assumption); (case N => assumption); (case hN => first | exact fun p hp => hp | exact (fun p hp => List.Mem.tail _ hp) | exact (fun p hp => List.Mem.tail _ (List.Mem.tail _ hp))); (case h0 => (simp only [kstB, Mine.gne_before_over, Mine.gne_before_given, Mine.gne_before_text, Mine.gne_before_posix, Mine.gne_before_letter, Mine.gne_before_sign, Mine.gne_over_before, Mine.gne_over_given, Mine.gne_over_text, Mine.gne_over_posix, Mine.gne_over_letter, Mine.gne_over_sign, Mine.gne_given_before, Mine.gne_given_over, Mine.gne_given_text, Mine.gne_given_posix, Mine.gne_given_letter, Mine.gne_given_sign, Mine.gne_text_before, Mine.gne_text_over, Mine.gne_text_given, Mine.gne_text_posix, Mine.gne_text_letter, Mine.gne_text_sign, Mine.gne_posix_before, Mine.gne_posix_over, Mine.gne_posix_given, Mine.gne_posix_text, Mine.gne_posix_letter, Mine.gne_posix_sign, Mine.gne_letter_before, Mine.gne_letter_over, Mine.gne_letter_given, Mine.gne_letter_text, Mine.gne_letter_posix, Mine.gne_letter_sign, Mine.gne_sign_before, Mine.gne_sign_over, Mine.gne_sign_given, Mine.gne_sign_text, Mine.gne_sign_posix, Mine.gne_sign_letter, if_true, if_false]; try rfl)); (case h1 => (simp only [kstB, Mine.gne_before_over, Mine.gne_before_given, Mine.gne_before_text, Mine.gne_before_posix, Mine.gne_before_letter, Mine.gne_before_sign, Mine.gne_over_before, Mine.gne_over_given, Mine.gne_over_text, Mine.gne_over_posix, Mine.gne_over_letter, Mine.gne_over_sign, Mine.gne_given_before, Mine.gne_given_over, Mine.gne_given_text, Mine.gne_given_posix, Mine.gne_given_letter, Mine.gne_given_sign, Mine.gne_text_before, Mine.gne_text_over, Mine.gne_text_given, Mine.gne_text_posix, Mine.gne_text_letter, Mine.gne_text_sign, Mine.gne_posix_before, Mine.gne_posix_over, Mine.gne_posix_given, Mine.gne_posix_text, Mine.gne_posix_letter, Mine.gne_posix_sign, Mine.gne_letter_before, Mine.gne_letter_over, Mine.gne_letter_given, Mine.gne_letter_text, Mine.gne_letter_posix, Mine.gne_letter_sign, Mine.gne_sign_before, Mine.gne_sign_over, Mine.gne_sign_given, Mine.gne_sign_text, Mine.gne_sign_posix, Mine.gne_sign_letter, if_true, if_false]; try rfl)); (case h3 => (simp only [kstB, Mine.gne_before_over, Mine.gne_before_given, Mine.gne_before_text, Mine.gne_before_posix, Mine.gne_before_letter, Mine.gne_before_sign, Mine.gne_over_before, Mine.gne_over_given, Mine.gne_over_text, Mine.gne_over_posix, Mine.gne_over_letter, Mine.gne_over_sign, Mine.gne_given_before, Mine.gne_given_over, Mine.gne_given_text, Mine.gne_given_posix, Mine.gne_given_letter, Mine.gne_given_sign, Mine.gne_text_before, Mine.gne_text_over, Mine.gne_text_given, Mine.gne_text_posix, Mine.gne_text_letter, Mine.gne_text_sign, Mine.gne_posix_before, Mine.gne_posix_over, Mine.gne_posix_given, Mine.gne_posix_text, Mine.gne_posix_letter, Mine.gne_posix_sign, Mine.gne_letter_before, Mine.gne_letter_over, Mine.gne_letter_given, Mine.gne_letter_text, Mine.gne_letter_posix, Mine.gne_letter_sign, Mine.gne_sign_before, Mine.gne_sign_over, Mine.gne_sign_given, Mine.gne_sign_text, Mine.gne_sign_posix, Mine.gne_sign_letter, if_true, if_false]; try rfl)); (case h4 => (simp only [kstB, Mine.gne_before_over, Mine.gne_before_given, Mine.gne_before_text, Mine.gne_before_posix, Mine.gne_before_letter, Mine.gne_before_sign, Mine.gne_over_before, Mine.gne_over_given, Mine.gne_over_text, Mine.gne_over_posix, Mine.gne_over_letter, Mine.gne_over_sign, Mine.gne_given_before, Mine.gne_given_over, Mine.gne_given_text, Mine.gne_given_posix, Mine.gne_given_letter, Mine.gne_given_sign, Mine.gne_text_before, Mine.gne_text_over, Mine.gne_text_given, Mine.gne_text_posix, Mine.gne_text_letter, Mine.gne_text_sign, Mine.gne_posix_before, Mine.gne_posix_over, Mine.gne_posix_given, Mine.gne_posix_text, Mine.gne_posix_letter, Mine.gne_posix_sign, Mine.gne_letter_before, Mine.gne_letter_over, Mine.gne_letter_given, Mine.gne_letter_text, Mine.gne_letter_posix, Mine.gne_letter_sign, Mine.gne_sign_before, Mine.gne_sign_over, Mine.gne_sign_given, Mine.gne_sign_text, Mine.gne_sign_posix, Mine.gne_sign_letter, if_true, if_false]; try rfl)); (case h5 => (simp only [kstB, Mine.gne_before_over, Mine.gne_before_given, Mine.gne_before_text, Mine.gne_before_posix, Mine.gne_before_letter, Mine.gne_before_sign, Mine.gne_over_before, Mine.gne_over_given, Mine.gne_over_text, Mine.gne_over_posix, Mine.gne_over_letter, Mine.gne_over_sign, Mine.gne_given_before, Mine.gne_given_over, Mine.gne_given_text, Mine.gne_given_posix, Mine.gne_given_letter, Mine.gne_given_sign, Mine.gne_text_before, Mine.gne_text_over, Mine.gne_text_given, Mine.gne_text_posix, Mine.gne_text_letter, Mine.gne_text_sign, Mine.gne_posix_before, Mine.gne_posix_over, Mine.gne_posix_given, Mine.gne_posix_text, Mine.gne_posix_letter, Mine.gne_posix_sign, Mine.gne_letter_before, Mine.gne_letter_over, Mine.gne_letter_given, Mine.gne_letter_text, Mine.gne_letter_posix, Mine.gne_letter_sign, Mine.gne_sign_before, Mine.gne_sign_over, Mine.gne_sign_given, Mine.gne_sign_text, Mine.gne_sign_posix, Mine.gne_sign_letter, if_true, if_false]; try rfl)); (case hr => (intro z z1 z2 z3 z4 z5 z6 z7; have z8 : [Str.ofString "letter"].contains z = false := (by simp only [List.contains_cons, List.contains_nil, Bool.or_false]; exact beq_eq_false_iff_ne.mpr z7); simp only [kstB, z1, z2, z3, z4, z5, z6, z7, z8, if_false, Bool.false_eq_true])); (case eo => first | exact List.push_toArray _ _ | exact rfl); (case eg => first | exact List.push_toArray _ _ | exact rfl); (case had => exact rfl))
          exact Mine.ginv_tf hI rfl hW
      | false =>
        cases hws : (Str.ofString " \t\x0d\n").cps.toList.contains n with
        | true =>
          k_steps
          all_goals (refine' Mine.gs_end ?F ?N ?hN ?eo ?eg ?h0 ?h1 ?h3 ?h4 ?h5 ?hr ?had _; (case F => assumption); (case N => assumption); (case hN => first | exact fun p hp => hp | exact (fun p hp => List.Mem.tail _ hp) | exact (fun p hp => List.Mem.tail _ (List.Mem.tail _ hp))); (case h0 => (simp only [kstB, Mine.gne_before_over, Mine.gne_before_given, Mine.gne_before_text, Mine.gne_before_posix, Mine.gne_before_letter, Mine.gne_before_sign, Mine.gne_over_before, Mine.gne_over_given, Mine.gne_over_text, Mine.gne_over_posix, Mine.gne_over_letter, Mine.gne_over_sign, Mine.gne_given_before, Mine.gne_given_over, Mine.gne_given_text, Mine.gne_given_posix, Mine.gne_given_letter, Mine.gne_given_sign, Mine.gne_text_before, Mine.gne_text_over, Mine.gne_text_given, Mine.gne_text_posix, Mine.gne_text_letter, Mine.gne_text_sign, Mine.gne_posix_before, Mine.gne_posix_over, Mine.gne_posix_given, Mine.gne_posix_text, Mine.gne_posix_letter, Mine.gne_posix_sign, Mine.gne_letter_before, Mine.gne_letter_over, Mine.gne_letter_given, Mine.gne_letter_text, Mine.gne_letter_posix, Mine.gne_letter_sign, Mine.gne_sign_before, Mine.gne_sign_over, Mine.gne_sign_given, Mine.gne_sign_text, Mine.gne_sign_posix, Mine.gne_sign_letter, if_true, if_false]; try rfl)); (case h1 => (simp only [kstB, Mine.gne_before_over, Mine.gne_before_given, Mine.gne_before_text, Mine.gne_before_posix, Mine.gne_before_letter, Mine.gne_before_sign, Mine.gne_over_before, Mine.gne_over_given, Mine.gne_over_text, Mine.gne_over_posix, Mine.gne_over_letter, Mine.gne_over_sign, Mine.gne_given_before, Mine.gne_given_over, Mine.gne_given_text, Mine.gne_given_posix, Mine.gne_given_letter, Mine.gne_given_sign, Mine.gne_text_before, Mine.gne_text_over, Mine.gne_text_given, Mine.gne_text_posix, Mine.gne_text_letter, Mine.gne_text_sign, Mine.gne_posix_before, Mine.gne_posix_over, Mine.gne_posix_given, Mine.gne_posix_text, Mine.gne_posix_letter, Mine.gne_posix_sign, Mine.gne_letter_before, Mine.gne_letter_over, Mine.gne_letter_given, Mine.gne_letter_text, Mine.gne_letter_posix, Mine.gne_letter_sign, Mine.gne_sign_before, Mine.gne_sign_over, Mine.gne_sign_given, Mine.gne_sign_text, Mine.gne_sign_posix, Mine.gne_sign_letter, if_true, if_false]; try rfl)); (case h3 => (simp only [kstB, Mine.gne_before_over, Mine.gne_before_given, Mine.gne_before_text, Mine.gne_before_posix, Mine.gne_before_letter, Mine.gne_before_sign, Mine.gne_over_before, Mine.gne_over_given, Mine.gne_over_text, Mine.gne_over_posix, Mine.gne_over_letter, Mine.gne_over_sign, Mine.gne_given_before, Mine.gne_given_over, Mine.gne_given_text, Mine.gne_given_posix, Mine.gne_given_letter, Mine.gne_given_sign, Mine.gne_text_before, Mine.gne_text_over, Mine.gne_text_given, Mine.gne_text_posix, Mine.gne_text_letter, Mine.gne_text_sign, Mine.gne_posix_before, Mine.gne_posix_over, Mine.gne_posix_given, Mine.gne_posix_text, Mine.gne_posix_letter, Mine.gne_posix_sign, Mine.gne_letter_before, Mine.gne_letter_over, Mine.gne_letter_given, Mine.gne_letter_text, Mine.gne_letter_posix, Mine.gne_letter_sign, Mine.gne_sign_before, Mine.gne_sign_over, Mine.gne_sign_given, Mine.gne_sign_text, Mine.gne_sign_posix, Mine.gne_sign_letter, if_true, if_false]; try rfl)); (case h4 => (simp only [kstB, Mine.gne_before_over, Mine.gne_before_given, Mine.gne_before_text, Mine.gne_before_posix, Mine.gne_before_letter, Mine.gne_before_sign, Mine.gne_over_before, Mine.gne_over_given, Mine.gne_over_text, Mine.gne_over_posix, Mine.gne_over_letter, Mine.gne_over_sign, Mine.gne_given_before, Mine.gne_given_over, Mine.gne_given_text, Mine.gne_given_posix, Mine.gne_given_letter, Mine.gne_given_sign, Mine.gne_text_before, Mine.gne_text_over, Mine.gne_text_given, Mine.gne_text_posix, Mine.gne_text_letter, Mine.gne_text_sign, Mine.gne_posix_before, Mine.gne_posix_over, Mine.gne_posix_given, Mine.gne_posix_text, Mine.gne_posix_letter, Mine.gne_posix_sign, Mine.gne_letter_before, Mine.gne_letter_over, Mine.gne_letter_given, Mine.gne_letter_text, Mine.gne_letter_posix, Mine.gne_letter_sign, Mine.gne_sign_before, Mine.gne_sign_over, Mine.gne_sign_given, Mine.gne_sign_text, Mine.gne_sign_posix, Mine.gne_sign_letter, if_true, if_false]; try rfl)); (case h5 => (simp only [kstB, Mine.gne_before_over, Mine.gne_before_given, Mine.gne_before_text, Mine.gne_before_posix, Mine.gne_before_letter, Mine.gne_before_sign, Mine.gne_over_before, Mine.gne_over_given, Mine.gne_over_text, Mine.gne_over_posix, Mine.gne_over_letter, Mine.gne_over_sign, Mine.gne_given_before, Mine.gne_given_over, Mine.gne_given_text, Mine.gne_given_posix, Mine.gne_given_letter, Mine.gne_given_sign, Mine.gne_text_before, Mine.gne_text_over, Mine.gne_text_given, Mine.gne_text_posix, Mine.gne_text_letter, Mine.gne_text_sign, Mine.gne_posix_before, Mine.gne_posix_over, Mine.gne_posix_given, Mine.gne_posix_text, Mine.gne_posix_letter, Mine.gne_posix_sign, Mine.gne_letter_before, Mine.gne_letter_over, Mine.gne_letter_given, Mine.gne_letter_text, Mine.gne_letter_posix, Mine.gne_letter_sign, Mine.gne_sign_before, Mine.gne_sign_over, Mine.gne_sign_given, Mine.gne_sign_text, Mine.gne_sign_posix, Mine.gne_sign_letter, if_true, if_false]; try rfl)); (case hr => (intro z z1 z2 z3 z4 z5 z6 z7; have z8 : [Str.ofString "letter"].contains z = false := (by simp only [List.contains_cons, List.contains_nil, Bool.or_false]; exact beq_eq_false_iff_ne.mpr z7); simp only [kstB, z1, z2, z3, z4, z5, z6, z7, z8, if_false, Bool.false_eq_true])); (case eo => first | exact List.push_toArray _ _ | exact rfl); (case eg => first | exact List.push_toArray _ _ | exact rfl); (case had => exact rfl))
          all_goals exact Mine.ginv_ws hI hW hws
        | false =>
          cases bf with
          | true =>
            k_steps
            (refine' Mine.gs_end ?F ?N ?hN ?eo ?eg ?h0 ?h1 ?h3 ?h4 ?h5 ?hr ?had _; (case F => assumption); (case N => assumption); (case hN => first | exact fun p hp => hp | exact (fun p hp => List.Mem.tail _ hp) | exact (fun p hp => List.Mem.tail _ (List.Mem.tail _ hp))); (case h0 => (simp only [kstB, Mine.gne_before_over, Mine.gne_before_given, Mine.gne_before_text, Mine.gne_before_posix, Mine.gne_before_letter, Mine.gne_before_sign, Mine.gne_over_before, Mine.gne_over_given, Mine.gne_over_text, Mine.gne_over_posix, Mine.gne_over_letter, Mine.gne_over_sign, Mine.gne_given_before, Mine.gne_given_over, Mine.gne_given_text, Mine.gne_given_posix, Mine.gne_given_letter, Mine.gne_given_sign, Mine.gne_text_before, Mine.gne_text_over, Mine.gne_text_given, Mine.gne_text_posix, Mine.gne_text_letter, Mine.gne_text_sign, Mine.gne_posix_before, Mine.gne_posix_over, Mine.gne_posix_given, Mine.gne_posix_text, Mine.gne_posix_letter, Mine.gne_posix_sign, Mine.gne_letter_before, Mine.gne_letter_over, Mine.gne_letter_given, Mine.gne_letter_text, Mine.gne_letter_posix, Mine.gne_letter_sign, Mine.gne_sign_before, Mine.gne_sign_over, Mine.gne_sign_given, Mine.gne_sign_text, Mine.gne_sign_posix, Mine.gne_sign_letter, if_true, if_false]; try rfl)); (case h1 => (simp only [kstB, Mine.gne_before_over, Mine.gne_before_given, Mine.gne_before_text, Mine.gne_before_posix, Mine.gne_before_letter, Mine.gne_before_sign, Mine.gne_over_before, Mine.gne_over_given, Mine.gne_over_text, Mine.gne_over_posix, Mine.gne_over_letter, Mine.gne_over_sign, Mine.gne_given_before, Mine.gne_given_over, Mine.gne_given_text, Mine.gne_given_posix, Mine.gne_given_letter, Mine.gne_given_sign, Mine.gne_text_before, Mine.gne_text_over, Mine.gne_text_given, Mine.gne_text_posix, Mine.gne_text_letter, Mine.gne_text_sign, Mine.gne_posix_before, Mine.gne_posix_over, Mine.gne_posix_given, Mine.gne_posix_text, Mine.gne_posix_letter, Mine.gne_posix_sign, Mine.gne_letter_before, Mine.gne_letter_over, Mine.gne_letter_given, Mine.gne_letter_text, Mine.gne_letter_posix, Mine.gne_letter_sign, Mine.gne_sign_before, Mine.gne_sign_over, Mine.gne_sign_given, Mine.gne_sign_text, Mine.gne_sign_posix, Mine.gne_sign_letter, if_true, if_false]; try rfl)); (case h3 => (simp only [kstB, Mine.gne_before_over, Mine.gne_before_given, Mine.gne_before_text, Mine.gne_before_posix, Mine.gne_before_letter, Mine.gne_before_sign, Mine.gne_over_before, Mine.gne_over_given, Mine.gne_over_text, Mine.gne_over_posix, Mine.gne_over_letter, Mine.gne_over_sign, Mine.gne_given_before, Mine.gne_given_over, Mine.gne_given_text, Mine.gne_given_posix, Mine.gne_given_letter, Mine.gne_given_sign, Mine.gne_text_before, Mine.gne_text_over, Mine.gne_text_given, Mine.gne_text_posix, Mine.gne_text_letter, Mine.gne_text_sign, Mine.gne_posix_before, Mine.gne_posix_over, Mine.gne_posix_given, Mine.gne_posix_text, Mine.gne_posix_letter, Mine.gne_posix_sign, Mine.gne_letter_before, Mine.gne_letter_over, Mine.gne_letter_given, Mine.gne_letter_text, Mine.gne_letter_posix, Mine.gne_letter_sign, Mine.gne_sign_before, Mine.gne_sign_over, Mine.gne_sign_given, Mine.gne_sign_text, Mine.gne_sign_posix, Mine.gne_sign_letter, if_true, if_false]; try rfl)); (case h4 => (simp only [kstB, Mine.gne_before_over, Mine.gne_before_given, Mine.gne_before_text, Mine.gne_before_posix, Mine.gne_before_letter, Mine.gne_before_sign, Mine.gne_over_before, Mine.gne_over_given, Mine.gne_over_text, Mine.gne_over_posix, Mine.gne_over_letter, Mine.gne_over_sign, Mine.gne_given_before, Mine.gne_given_over, Mine.gne_given_text, Mine.gne_given_posix, Mine.gne_given_letter, Mine.gne_given_sign, Mine.gne_text_before, Mine.gne_text_over, Mine.gne_text_given, Mine.gne_text_posix, Mine.gne_text_letter, Mine.gne_text_sign, Mine.gne_posix_before, Mine.gne_posix_over, Mine.gne_posix_given, Mine.gne_posix_text, Mine.gne_posix_letter, Mine.gne_posix_sign, Mine.gne_letter_before, Mine.gne_letter_over, Mine.gne_letter_given, Mine.gne_letter_text, Mine.gne_letter_posix, Mine.gne_letter_sign, Mine.gne_sign_before, Mine.gne_sign_over, Mine.gne_sign_given, Mine.gne_sign_text, Mine.gne_sign_posix, Mine.gne_sign_letter, if_true, if_false]; try rfl)); (case h5 => (simp only [kstB, Mine.gne_before_over, Mine.gne_before_given, Mine.gne_before_text, Mine.gne_before_posix, Mine.gne_before_letter, Mine.gne_before_sign, Mine.gne_over_before, Mine.gne_over_given, Mine.gne_over_text, Mine.gne_over_posix, Mine.gne_over_letter, Mine.gne_over_sign, Mine.gne_given_before, Mine.gne_given_over, Mine.gne_given_text, Mine.gne_given_posix, Mine.gne_given_letter, Mine.gne_given_sign, Mine.gne_text_before, Mine.gne_text_over, Mine.gne_text_given, Mine.gne_text_posix, Mine.gne_text_letter, Mine.gne_text_sign, Mine.gne_posix_before, Mine.gne_posix_over, Mine.gne_posix_given, Mine.gne_posix_text, Mine.gne_posix_letter, Mine.gne_posix_sign, Mine.gne_letter_before, Mine.gne_letter_over, Mine.gne_letter_given, Mine.gne_letter_text, Mine.gne_letter_posix, Mine.gne_letter_sign, Mine.gne_sign_before, Mine.gne_sign_over, Mine.gne_sign_given, Mine.gne_sign_text, Mine.gne_sign_posix, Mine.gne_sign_letter, if_true, if_false]; try rfl)); (case hr => (intro z z1 z2 z3 z4 z5 z6 z7; have z8 : [Str.ofString "letter"].contains z = false := (by simp only [List.contains_cons, List.contains_nil, Bool.or_false]; exact beq_eq_false_iff_ne.mpr z7); simp only [kstB, z1, z2, z3, z4, z5, z6, z7, z8, if_false, Bool.false_eq_true])); (case eo => first | exact List.push_toArray _ _ | exact rfl); (case eg => first | exact List.push_toArray _ _ | exact rfl); (case had => exact rfl))
            exact Mine.ginv_ov hI rfl hW hws
          | false =>
            k_steps
            (refine' Mine.gs_end ?F ?N ?hN ?eo ?eg ?h0 ?h1 ?h3 ?h4 ?h5 ?hr ?had _; (case F => assumption); (case N => assumption); (case hN => first | exact fun p hp => hp | exact (fun p hp => List.Mem.tail _ hp) | exact (fun p hp => List.Mem.tail _ (List.Mem.tail _ hp))); (case h0 => (simp only [kstB, Mine.gne_before_over, Mine.gne_before_given, Mine.gne_before_text, Mine.gne_before_posix, Mine.gne_before_letter, Mine.gne_before_sign, Mine.gne_over_before, Mine.gne_over_given, Mine.gne_over_text, Mine.gne_over_posix, Mine.gne_over_letter, Mine.gne_over_sign, Mine.gne_given_before, Mine.gne_given_over, Mine.gne_given_text, Mine.gne_given_posix, Mine.gne_given_letter, Mine.gne_given_sign, Mine.gne_text_before, Mine.gne_text_over, Mine.gne_text_given, Mine.gne_text_posix, Mine.gne_text_letter, Mine.gne_text_sign, Mine.gne_posix_before, Mine.gne_posix_over, Mine.gne_posix_given, Mine.gne_posix_text, Mine.gne_posix_letter, Mine.gne_posix_sign, Mine.gne_letter_before, Mine.gne_letter_over, Mine.gne_letter_given, Mine.gne_letter_text, Mine.gne_letter_posix, Mine.gne_letter_sign, Mine.gne_sign_before, Mine.gne_sign_over, Mine.gne_sign_given, Mine.gne_sign_text, Mine.gne_sign_posix, Mine.gne_sign_letter, if_true, if_false]; try rfl)); (case h1 => (simp only [kstB, Mine.gne_before_over, Mine.gne_before_given, Mine.gne_before_text, Mine.gne_before_posix, Mine.gne_before_letter, Mine.gne_before_sign, Mine.gne_over_before, Mine.gne_over_given, Mine.gne_over_text, Mine.gne_over_posix, Mine.gne_over_letter, Mine.gne_over_sign, Mine.gne_given_before, Mine.gne_given_over, Mine.gne_given_text, Mine.gne_given_posix, Mine.gne_given_letter, Mine.gne_given_sign, Mine.gne_text_before, Mine.gne_text_over, Mine.gne_text_given, Mine.gne_text_posix, Mine.gne_text_letter, Mine.gne_text_sign, Mine.gne_posix_before, Mine.gne_posix_over, Mine.gne_posix_given, Mine.gne_posix_text, Mine.gne_posix_letter, Mine.gne_posix_sign, Mine.gne_letter_before, Mine.gne_letter_over, Mine.gne_letter_given, Mine.gne_letter_text, Mine.gne_letter_posix, Mine.gne_letter_sign, Mine.gne_sign_before, Mine.gne_sign_over, Mine.gne_sign_given, Mine.gne_sign_text, Mine.gne_sign_posix, Mine.gne_sign_letter, if_true, if_false]; try rfl)); (case h3 => (simp only [kstB, Mine.gne_before_over, Mine.gne_before_given, Mine.gne_before_text, Mine.gne_before_posix, Mine.gne_before_letter, Mine.gne_before_sign, Mine.gne_over_before, Mine.gne_over_given, Mine.gne_over_text, Mine.gne_over_posix, Mine.gne_over_letter, Mine.gne_over_sign, Mine.gne_given_before, Mine.gne_given_over, Mine.gne_given_text, Mine.gne_given_posix, Mine.gne_given_letter, Mine.gne_given_sign, Mine.gne_text_before, Mine.gne_text_over, Mine.gne_text_given, Mine.gne_text_posix, Mine.gne_text_letter, Mine.gne_text_sign, Mine.gne_posix_before, Mine.gne_posix_over, Mine.gne_posix_given, Mine.gne_posix_text, Mine.gne_posix_letter, Mine.gne_posix_sign, Mine.gne_letter_before, Mine.gne_letter_over, Mine.gne_letter_given, Mine.gne_letter_text, Mine.gne_letter_posix, Mine.gne_letter_sign, Mine.gne_sign_before, Mine.gne_sign_over, Mine.gne_sign_given, Mine.gne_sign_text, Mine.gne_sign_posix, Mine.gne_sign_letter, if_true, if_false]; try rfl)); (case h4 => (simp only [kstB, Mine.gne_before_over, Mine.gne_before_given, Mine.gne_before_text, Mine.gne_before_posix, Mine.gne_before_letter, Mine.gne_before_sign, Mine.gne_over_before, Mine.gne_over_given, Mine.gne_over_text, Mine.gne_over_posix, Mine.gne_over_letter, Mine.gne_over_sign, Mine.gne_given_before, Mine.gne_given_over, Mine.gne_given_text, Mine.gne_given_posix, Mine.gne_given_letter, Mine.gne_given_sign, Mine.gne_text_before, Mine.gne_text_over, Mine.gne_text_given, Mine.gne_text_posix, Mine.gne_text_letter, Mine.gne_text_sign, Mine.gne_posix_before, Mine.gne_posix_over, Mine.gne_posix_given, Mine.gne_posix_text, Mine.gne_posix_letter, Mine.gne_posix_sign, Mine.gne_letter_before, Mine.gne_letter_over, Mine.gne_letter_given, Mine.gne_letter_text, Mine.gne_letter_posix, Mine.gne_letter_sign, Mine.gne_sign_before, Mine.gne_sign_over, Mine.gne_sign_given, Mine.gne_sign_text, Mine.gne_sign_posix, Mine.gne_sign_letter, if_true, if_false]; try rfl)); (case h5 => (simp only [kstB, Mine.gne_before_over, Mine.gne_before_given, Mine.gne_before_text, Mine.gne_before_posix, Mine.gne_before_letter, Mine.gne_before_sign, Mine.gne_over_before, Mine.gne_over_given, Mine.gne_over_text, Mine.gne_over_posix, Mine.gne_over_letter, Mine.gne_over_sign, Mine.gne_given_before, Mine.gne_given_over, Mine.gne_given_text, Mine.gne_given_posix, Mine.gne_given_letter, Mine.gne_given_sign, Mine.gne_text_before, Mine.gne_text_over, Mine.gne_text_given, Mine.gne_text_posix, Mine.gne_text_letter, Mine.gne_text_sign, Mine.gne_posix_before, Mine.gne_posix_over, Mine.gne_posix_given, Mine.gne_posix_text, Mine.gne_posix_letter, Mine.gne_posix_sign, Mine.gne_letter_before, Mine.gne_letter_over, Mine.gne_letter_given, Mine.gne_letter_text, Mine.gne_letter_posix, Mine.gne_letter_sign, Mine.gne_sign_before, Mine.gne_sign_over, Mine.gne_sign_given, Mine.gne_sign_text, Mine.gne_sign_posix, Mine.gne_sign_letter, if_true, if_false]; try rfl)); (case hr => (intro z z1 z2 z3 z4 z5 z6 z7; have z8 : [Str.ofString "letter"].contains z = false := (by simp only [List.contains_cons, List.contains_nil, Bool.or_false]; exact beq_eq_false_iff_ne.mpr z7); simp only [kstB, z1, z2, z3, z4, z5, z6, z7, z8, if_false, Bool.false_eq_true])); (case eo => first | exact List.push_toArray _ _ | exact rfl); (case eg => first | exact List.push_toArray _ _ | exact rfl); (case had => exact rfl))
            exact Mine.ginv_gv hI rfl hW hws
    · rintro ⟨gv, gn, ov, on, bf⟩ u h4 tk4 _ hI F4 N4
      dsimp only [Mine.gsLed, Mine.gsPs] at F4 N4
      clear F3 N3 e1 e2 e3 e4 e5
      (repeat' (first | (k_unfold; (try dsimp only)) | ((fail_if_success (with_reducible show wpAny _ _ (eval (Expr.IfExp _ _ _ _) _) _ _ _)); walk1)))
      refine Mine.end_val (b := b) ?_ ?_
      · cases b with
        | true =>
          k_steps
          all_goals first | exact rfl | exact ⟨_, rfl⟩ | skip
        | false =>
          k_steps
          all_goals first | exact rfl | exact ⟨_, rfl⟩ | skip
      · intro endv k5 hend
        (repeat' (first | (k_unfold; (try dsimp only)) | ((fail_if_success (with_reducible show wpAny _ _ (call (Value.ref 722) _ _) _ _ _)); walk1)))
        rename Fr _ _ _ _ => F5
        rename News _ _ _ _ => N5
        obtain ⟨m5, F5⟩ := Mine.kst_intro (ps := [(Str.ofString "end", endv), (Str.ofString "over", .ref oa), (Str.ofString "given", .ref ga), (Str.ofString "text", .str (Mine.S x) xt), (Str.ofString "posix", .bool b)]) F5 (by
          intro p hp
          simp only [List.mem_cons, List.not_mem_nil, or_false] at hp
          rcases hp with rfl | rfl | rfl | rfl | rfl
          · exact if_pos rfl
          all_goals simp only [kstB, Mine.gne_x, Mine.gne_before_over, Mine.gne_before_given, Mine.gne_before_text, Mine.gne_before_posix, Mine.gne_before_letter, Mine.gne_before_sign, Mine.gne_over_before, Mine.gne_over_given, Mine.gne_over_text, Mine.gne_over_posix, Mine.gne_over_letter, Mine.gne_over_sign, Mine.gne_given_before, Mine.gne_given_over, Mine.gne_given_text, Mine.gne_given_posix, Mine.gne_given_letter, Mine.gne_given_sign, Mine.gne_text_before, Mine.gne_text_over, Mine.gne_text_given, Mine.gne_text_posix, Mine.gne_text_letter, Mine.gne_text_sign, Mine.gne_posix_before, Mine.gne_posix_over, Mine.gne_posix_given, Mine.gne_posix_text, Mine.gne_posix_letter, Mine.gne_posix_sign, Mine.gne_letter_before, Mine.gne_letter_over, Mine.gne_letter_given, Mine.gne_letter_text, Mine.gne_letter_posix, Mine.gne_letter_sign, Mine.gne_sign_before, Mine.gne_sign_over, Mine.gne_sign_given, Mine.gne_sign_text, Mine.gne_sign_posix, Mine.gne_sign_letter, if_false, if_true])
        refine' Mine.ctor ?k1 ?k2 ?k3 ?k4 ?k5 ?k6 hx3 ?k8 ?_
        case k8 => exact N5
        case k1 => k_asm
        case k2 => exact F5
        case k3 => k_asm
        case k4 => k_asm
        case k5 => k_room
        case k6 => k_units
        intro lx dx io iod pb fs h6 kt LT1 ev2 t1 ts tl tt k6 F6 hev2 o1 o2 o3 o4 o5 a1 a2 a3 a4 N6
        clear F5 N5 F4 N4
        simp only [AllLt, and_true] at a1 a2 a3 a4
        have hSl := Mine.S_length x
        (repeat' (first | (k_unfold; (try dsimp only)) | ((fail_if_success (with_reducible show wpAny _ _ (exec (Stmt.Assign _ (Expr.ListComp _ _ _ _) _) _) _ _ _)); walk1)))
        rename Fr _ _ _ _ => F7
        rename News _ _ _ _ => N7
        rename Obj => oc2
        refine LCg.Assign_ListComp_U (F₀ := F7) (by rfl) (by with_unfolding_all rfl) (by with_unfolding_all rfl) (by decide) (by rfl) (by decide) (by rfl) (by rfl) (by rfl) ?_
        (repeat' (first | (k_unfold; (try dsimp only)) | ((fail_if_success (with_reducible show LCg.CompSrc _ _ _ _ _ _ _ _ _ _ _ _ _ _)); walk1)))
        refine LCg.CompSrc.range (by rfl) (by k_asm) (by k_asm) (by assumption) (small_one (by omega) (by omega) (by omega) (by omega)) (rangeSize_nat _ _) (by rw [PySem.sizeLine_eq]; omega) ?_
        intro g'
        have r1 := Mine.all4 (q1 := listOf ov.toArray on) (q2 := listOf gv.toArray gn) (q3 := listOf va nn) (q4 := oc2) a2
        have r2 := Mine.all4 (q1 := listOf ov.toArray on) (q2 := listOf gv.toArray gn) (q3 := listOf va nn) (q4 := oc2) a1
        have r3 := Mine.all4 (q1 := listOf ov.toArray on) (q2 := listOf gv.toArray gn) (q3 := listOf va nn) (q4 := oc2) a3
        refine Mine.comp_st (σ := Mine.LS) (fun c => Mine.lxLed w.params kt LT1 x b ev2 .none io iod pb lx dx fs 0 c ++ [(oa, listOf ov.toArray on), (ga, listOf gv.toArray gn), (D, listOf va nn), (_, oc2)]) (fun i c ys => Mine.LxI x b i c ys) ⟨.str (Str.ofString " ") ts, 1, tl, Str.ofString "", tt, 0, t1, [], 0⟩ (fun _ _ => rfl) Mine.lx0 ?_ ?_
        · rintro i c ys v I oI C oC D2 m₂ h tk E' hi hP hv hC hx F8 N8 off ne
          try dsimp only at N8 off
          have N9 := Mine.news_r3 N8
          have q1 := Mine.off_t3 (oI := oI) (oC := oC) (o := LCg.lst ys) r1 (LCg.Off3.mem off _ (.tail _ (.head _)))
          have q2 := Mine.off_t3 (oI := oI) (oC := oC) (o := LCg.lst ys) r2 (LCg.Off3.mem off _ (.tail _ (.tail _ (.tail _ (.tail _ (.head _))))))
          have q3 := Mine.off_t3 (oI := oI) (oC := oC) (o := LCg.lst ys) r3 (LCg.Off3.mem off _ (.tail _ (.tail _ (.head _))))
          (repeat' (first | (k_unfold; (try dsimp only)) | ((fail_if_success (with_reducible show wpAny _ _ (call (Value.ref 690) _) _ _ _)); walk1)))
          refine' Mine.lx_read ?k1 F8 ?k3 ?k4 ?k5 ?k6 hx2 hxg o1 o2 o3 o4 o5 q1 q2 q3 hP ?hi N9 ?_
          case k1 => k_asm
          case k3 => k_asm
          case k4 => k_asm
          case k5 => k_room
          case k6 => k_units
          case hi => omega
          intro h' v' c' k' F' N' hP'
          exact ⟨c', h', k', rfl, F', Mine.news_l3 N', hP'⟩
        · rintro c ys hP
          intro D3 h9 tk9 F9 N9 o9
          clear o9
          dsimp only [Mine.lxLed, List.cons_append, List.nil_append] at N9
          obtain ⟨ds, d1, d2, d3, ⟨os, s0, s1, s2, s3⟩, ⟨G, g1, g2⟩, u1, u2, u3⟩ := Mine.lx_done hP (by omega) hI
          rw [Mine.tn2] at *
          have hgo := Mine.g0_good (b := b) (W := fun c => (Mine.WC b).cps.toList.contains c) hxg
          dsimp only at d1 d2 d3 s2
          (repeat' (first | (k_unfold; (try dsimp only)) | ((fail_if_success (with_reducible show wpAny _ _ (newList _) _ _ _)); walk1)))
          refine Mine.new_few F9 N9 (by show 1 ≤ 100; omega) ?_
          intro le he Fe Ne loe
          clear F9 N9
          (repeat' (first | (k_unfold; (try dsimp only)) | ((fail_if_success (with_reducible show wpAny _ _ (call (Value.builtin "len") _) _ _ _)); walk1)))
          walk1
          (repeat' (first | (k_unfold; (try dsimp only)) | ((fail_if_success (with_reducible show wpAny _ _ (call (Value.builtin "len") _) _ _ _)); walk1)))
          refine Mine.len_few Ne (by k_mem) (by omega) ?_
          (repeat' (first | (k_unfold; (try dsimp only)) | ((fail_if_success (with_reducible show wpAny _ _ (binaryOp Operator.Mult _ _) _ _ _)); walk1)))
          refine Mine.mul_one Fe Ne (.head _) (by omega) (by omega) ?_
          intro lm hm Fm Nm lom
          clear Fe Ne
          (repeat' (first | (k_unfold; (try dsimp only)) | ((fail_if_success (with_reducible show wpAny _ _ (binaryOp Operator.Add _ _) _ _ _)); walk1)))
          refine Mine.cat_two Fm Nm (by k_mem) (.head _) (by rw [List.length_replicate]; omega) ?_
          intro lc hc Fc Nc loc
          clear Fm Nm
          (repeat' (first | (k_unfold; (try dsimp only)) | ((fail_if_success (with_reducible show wpAny _ _ (compareOp _ _ _) _ _ _)); walk1)))
          have hk : ((((Mine.S x).length : Int) + 2 - (gv.length : Int)).toNat) = ((Mine.S x).length + 2 - gv.length) := by omega
          refine Mine.ne_same Nc (.tail _ (.tail _ (.tail _ (.head _)))) rfl rfl d2 (.head _) rfl rfl (d1.append (Mine.rep_dat (Mine.ev_dat hend) _)) ?_ ?_ (by rw [hk]) ?_
          · intro d hd
            rcases List.mem_append.mp hd with h | h
            · rw [g1] at h
              obtain ⟨t, ht, rfl⟩ := List.mem_map.mp h
              exact Mine.good_ok (hgo.1 t (g2 ▸ ht)) 8
            · rw [List.eq_of_mem_replicate h]
              exact Mine.dat_ok (by simp) 8
          · exact Nat.le_of_ble_eq_true rfl
          have N10 : News _ _ hc (Mine.lxLed w.params kt LT1 x b ev2 .none io iod pb lx dx fs 0 c ++ [(oa, listOf ov.toArray on), (ga, listOf gv.toArray gn), (D, listOf va nn), (_, oc2)]) := fun p hp => Nc p (.tail _ (.tail _ (.tail _ (.tail _ hp))))
          clear Nc hP d1 d2
          clear hk
          have hF : Mine.LxF x c := ⟨u1, u3, u2⟩
          have hpbl : c.pbs.length = os.length := by simpa using s1.length
          have hovl : ov.length = os.length := by simpa using s2.length
          have N10' := N10
          dsimp only [Mine.lxLed, List.cons_append, List.nil_append] at N10'
          (repeat' (first | (k_unfold; (try dsimp only)) | ((fail_if_success (with_reducible show wpAny _ _ (call (Value.ref 661) _) _ _ _)); walk1)))
          refine' Mine.lx_push (c := c) ?k1 Fc ?k3 ?k4 ?k5 ?k6 o1 o2 o3 o4 o5 r3 ?hi N10 ?_
          case k1 => k_asm
          case k3 => k_asm
          case k4 => k_asm
          case k5 => k_room
          case k6 => k_units
          case hi => omega
          intro h10 k10 F10 N11
          clear Fc N10 N10'
          have N11' := N11
          dsimp only [Mine.lxLed, List.cons_append, List.nil_append] at N11'
          (repeat' (first | (k_unfold; (try dsimp only)) | ((fail_if_success (with_reducible show wpAny _ _ (call (Value.ref 690) _) _ _ _)); walk1)))
          refine' Mine.lx_last (c := ⟨c.sv, c.ln, c.tl, c.tok, c.tt, c.pos, c.tp, _ :: c.pbs, c.pn + 1⟩) ?k1 F10 ?k3 ?k4 ?k5 ?k6 hx2 o1 o2 o3 o4 o5 r1 r2 r3 hF ?hi N11 ?_
          case k1 => k_asm
          case k3 => k_asm
          case k4 => k_asm
          case k5 => k_room
          case k6 => k_units
          case hi => (simp only [List.length_cons]; omega)
          intro h12 v12 c12 k12 F12 N12 hF12 e12 hR12
          clear F10 N11 N11'
          have N12' := N12
          dsimp only [Mine.lxLed, List.cons_append, List.nil_append] at N12' e12
          (repeat' (first | (k_unfold; (try dsimp only)) | ((fail_if_success (with_reducible show wpAny _ _ (compareOp _ _ _) _ _ _)); walk1)))
          refine Mine.ne_end hR12 hend ?_
          (repeat' (first | (k_unfold; (try dsimp only)) | ((fail_if_success (with_reducible show wpAny _ _ (exec (Stmt.Assign _ (Expr.ListComp _ _ _ _) _) _) _ _ _)); walk1)))
          have hTl : c12.pbs.length = os.length + 1 := by rw [e12, List.length_cons, hpbl]
          refine LCg.Assign_ListComp_U (F₀ := F12) (by rfl) (by with_unfolding_all rfl) (by with_unfolding_all rfl) (by decide) (by rfl) (by decide) (by rfl) (by rfl) (by rfl) ?_
          (repeat' (first | (k_unfold; (try dsimp only)) | ((fail_if_success (with_reducible show wpAny _ _ (call (Value.builtin "len") _) _ _ _)); walk1)))
          refine Mine.len_few N12' (by k_mem) (by omega) ?_
          (repeat' (first | (k_unfold; (try dsimp only)) | ((fail_if_success (with_reducible show LCg.CompSrc _ _ _ _ _ _ _ _ _ _ _ _ _ _)); walk1)))
          refine LCg.CompSrc.range (by rfl) (by k_asm) (by k_asm) (by assumption) (small_one (by omega) (by omega) (by omega) (by omega)) (rangeSize_nat _ _) (by rw [PySem.sizeLine_eq]; omega) ?_
          intro g2'
          refine Mine.comp_st (σ := Mine.LS) (fun c => Mine.lxLed w.params kt LT1 x b ev2 .none io iod pb lx dx fs 0 c ++ [(oa, listOf ov.toArray on), (ga, listOf gv.toArray gn), (D, listOf va nn), (_, oc2)]) (fun i c ys => Mine.MxI x c12.pbs ev2 i c ys) c12 (fun _ _ => rfl) (Mine.mx0 hF12 rfl) ?_ ?_
          · rintro i c ys v I oI C oC D2 m₂ h tk E' hi hP hv hC hx F8 N8 off ne
            try dsimp only at N8 off
            have N9 := Mine.news_r3 N8
            have q1 := Mine.off_t3 (oI := oI) (oC := oC) (o := LCg.lst ys) r1 (LCg.Off3.mem off _ (.tail _ (.head _)))
            have q2 := Mine.off_t3 (oI := oI) (oC := oC) (o := LCg.lst ys) r2 (LCg.Off3.mem off _ (.tail _ (.tail _ (.tail _ (.tail _ (.head _))))))
            have q3 := Mine.off_t3 (oI := oI) (oC := oC) (o := LCg.lst ys) r3 (LCg.Off3.mem off _ (.tail _ (.tail _ (.head _))))
            have hpl := Mine.mx_pbs hP
            (repeat' (first | (k_unfold; (try dsimp only)) | ((fail_if_success (with_reducible show wpAny _ _ (call (Value.ref 683) _) _ _ _)); walk1)))
            refine' Mine.lx_get ?k1 F8 ?k3 ?k4 ?k5 ?k6 hx2 o1 o2 o3 o4 o5 q1 q2 q3 hP.1 ?hi hev2 N9 ?_
            case k1 => k_asm
            case k3 => k_asm
            case k4 => k_asm
            case k5 => k_room
            case k6 => k_units
            case hi => omega
            intro h' v' c' k' F' N' hF' hc'
            exact ⟨c', h', k', rfl, F', Mine.news_l3 N', Mine.mx_step hP hF' hc'⟩
          · rintro c ys hP
            intro D4 h14 tk14 F14 N14 o14
            clear o14
            have hys := Mine.mx_done hP (by omega)
            subst hys
            dsimp only [Mine.lxLed, List.cons_append, List.nil_append] at N14
            (repeat' (first | (k_unfold; (try dsimp only)) | ((fail_if_success (with_reducible show wpAny _ _ (newList _) _ _ _)); walk1)))
            refine Mine.new_few F14 N14 (by show 1 ≤ 100; omega) ?_
            intro l15 h15 F15 N15 lo15
            clear F14 N14
            dsimp only
            (repeat' (first | (k_unfold; (try dsimp only)) | ((fail_if_success (with_reducible show wpAny _ _ (subscriptTail _ _ _ _) _ _ _)); walk1)))
            refine' krv_lit (l := oa) (its := ov.toArray) (zs := ov.reverse) ?F ?N ?l (IsPart.int _ _) rfl ?_ ?hs ?ht ?hz
            case F => exact F15
            case N => exact N15
            case l => exact ⟨_, News.get N15 (by k_mem), rfl, on, rfl⟩
            case hs => with_unfolding_all rfl
            case ht => kmk_pure
            case hz => (rw [PySem.sizeLine_eq, List.size_toArray]; omega)
            intro l16 h16 F16 N16 lo16
            clear F15 N15
            (repeat' (first | (k_unfold; (try dsimp only)) | ((fail_if_success (with_reducible show wpAny _ _ (binaryOp Operator.Add _ _) _ _ _)); walk1)))
            refine Mine.cat_two (vs := [_]) F16 N16 (.tail _ (.head _)) (.head _) (by rw [List.length_reverse]; simp only [List.length_singleton]; omega) ?_
            intro l17 h17 F17 N17 lo17
            clear F16 N16
            (repeat' (first | (k_unfold; (try dsimp only)) | ((fail_if_success (with_reducible show wpAny _ _ (newList _) _ _ _)); walk1)))
            refine Mine.new_few F17 N17 (by show 2 ≤ 100; omega) ?_
            intro l18 h18 F18 N18 lo18
            clear F17 N17
            (repeat' (first | (k_unfold; (try dsimp only)) | ((fail_if_success (with_reducible show wpAny _ _ (binaryOp Operator.Add _ _) _ _ _)); walk1)))
            refine Mine.cat_two (ws := [_, _]) F18 N18 (.tail _ (.head _)) (.head _) (by rw [List.length_append, List.length_reverse]; simp only [List.length_cons, List.length_nil]; omega) ?_
            intro l19 h19 F19 N19 lo19
            clear F18 N18
            (repeat' (first | (k_unfold; (try dsimp only)) | ((fail_if_success (with_reducible show wpAny _ _ (compareOp _ _ _) _ _ _)); walk1)))
            have Da : DatAll [] (c12.pbs ++ [ev2, ev2]) ((Dat.str (Str.ofString "a b") :: (os.reverse.map fun o => Mine.S [o]).map Dat.str) ++ [Mine.datOf b [], Mine.datOf b []]) := by
              rw [e12]
              exact (DatAll.cons (.str _ _) (Mine.strs_dat s1)).append (.cons (Mine.ev_dat hev2) (.cons (Mine.ev_dat hev2) .nil))
            refine Mine.eq_same N19 (.tail _ (.tail _ (.tail _ (.tail _ (.tail _ (.head _)))))) rfl rfl Da (.head _) rfl rfl (((DatAll.cons (.str _ _) .nil).append (Mine.strs_dat (Mine.strs_rev s2))).append (.cons (Mine.ev_dat hend) (.cons (Mine.ev_dat hend) .nil))) ?_ ?_ ?_ ?_
            · intro d hd
              rcases List.mem_append.mp hd with h | h
              · rcases List.mem_cons.mp h with rfl | h
                · decide +kernel
                · rw [List.map_map] at h
                  obtain ⟨o, ho, rfl⟩ := List.mem_map.mp h
                  have ho2 : o ∈ os := by simpa using ho
                  exact Mine.good_ok (t := [o]) (fun a ha => by rw [List.mem_singleton.mp ha]; exact hgo.2 o (s0 ▸ ho2)) 8
              · simp only [List.mem_cons, List.not_mem_nil, or_false, or_self] at h
                rw [h]
                exact Mine.dat_ok (by simp) 8
            · exact Nat.le_of_ble_eq_true rfl
            · simp only [List.map_reverse, List.cons_append, List.nil_append]
            k_steps
theorem PySem.Challenge.cw_kq0019_02_holds : PySem.Challenge.rw_kq0019_02.Holds := by
  exact Mine.law_all


