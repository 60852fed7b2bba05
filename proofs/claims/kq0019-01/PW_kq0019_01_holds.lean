import PyProof.Rows.All
import Wide.All
import OpenK.AllK
import Wide.FinOn
import PySem.Challenge.RW_kq0019_01
open PySem PySem.W PyProof.Rows PySem.Calls PySem.Spec
set_option Elab.async false
set_option maxRecDepth 100000
set_option maxHeartbeats 0
set_option rowWalk.seconds 0
set_option genSizeOf false
set_option genSizeOfSpec false
set_option genInjectivity false
set_option compiler.extract_closed false
set_option linter.all false
namespace Mine
theorem keep_goal {p : Prop} (_ : True) (h : p) : p := h
section
local macro_rules | `(tactic| o_head $_) => `(tactic| refine keep_goal ?hw ?hc)
local macro_rules | `(tactic| w_witness2) => `(tactic| exact trivial)
open_top hd for (PySem.Challenge.rw_kq0019_01.row)
end
end Mine
theorem Mine.walk_off : True := by
  w_top off
  trivial
namespace Mine
theorem dq_attrs : PlainAttrs "collections.deque" :=
  ⟨⟨"collections.deque.__getattribute__", by rw [typeLookup_type, builtinLookup_eq_fast]; kernel_rfl, by decide +kernel⟩, by rw [typeLookup_type, builtinLookup_eq_fast]; kernel_rfl⟩
theorem dq_owner : Manifest.owners.lookup (String.ofList ['e', 'u', 'q', 'e', 'd', '.', 's', 'n', 'o', 'i', 't', 'c', 'e', 'l', 'l', 'o', 'c'].reverse) = some Manifest.sig_collections_deque := by kernel_rfl
theorem dq_slot_append : Slot "collections.deque" "append" "collections.deque.append" :=
  .of (owner := "collections.deque") (n := "append") (by rw [typeLookup_type, builtinLookup_eq_fast]; kernel_rfl) (by decide +kernel) (by decide +kernel) (by decide +kernel)
    (by first | exact .inl (by decide +kernel) | exact .inr (by decide +kernel)) (by rw [isSubtype_type]; kernel_rfl)
theorem dq_entry_append : entryFor table "collections.deque.append" = some Builtin.«collections.deque.append» := entryFor_of_tree (by kernel_rfl)
theorem dq_args_append (a b : Value) : argsOk "collections.deque.append" ⟨[a, b], []⟩ := by
  unfold argsOk; rw [signature?_of (id := "collections.deque.append") (n := ['d', 'n', 'e', 'p', 'p', 'a']) (o := ['e', 'u', 'q', 'e', 'd', '.', 's', 'n', 'o', 'i', 't', 'c', 'e', 'l', 'l', 'o', 'c']) (by kernel_rfl) dq_owner]; kernel_rfl
theorem dq_type_append : typeOf (.builtin "collections.deque.append") = pure (.type "method_descriptor") := by show builtinType _ = _; rw [builtinType_eq_fast]; kernel_rfl
theorem dq_slot_appendleft : Slot "collections.deque" "appendleft" "collections.deque.appendleft" :=
  .of (owner := "collections.deque") (n := "appendleft") (by rw [typeLookup_type, builtinLookup_eq_fast]; kernel_rfl) (by decide +kernel) (by decide +kernel) (by decide +kernel)
    (by first | exact .inl (by decide +kernel) | exact .inr (by decide +kernel)) (by rw [isSubtype_type]; kernel_rfl)
theorem dq_entry_appendleft : entryFor table "collections.deque.appendleft" = some Builtin.«collections.deque.appendleft» := entryFor_of_tree (by kernel_rfl)
theorem dq_args_appendleft (a b : Value) : argsOk "collections.deque.appendleft" ⟨[a, b], []⟩ := by
  unfold argsOk; rw [signature?_of (id := "collections.deque.appendleft") (n := ['t', 'f', 'e', 'l', 'd', 'n', 'e', 'p', 'p', 'a']) (o := ['e', 'u', 'q', 'e', 'd', '.', 's', 'n', 'o', 'i', 't', 'c', 'e', 'l', 'l', 'o', 'c']) (by kernel_rfl) dq_owner]; kernel_rfl
theorem dq_type_appendleft : typeOf (.builtin "collections.deque.appendleft") = pure (.type "method_descriptor") := by show builtinType _ = _; rw [builtinType_eq_fast]; kernel_rfl
theorem dq_slot_pop : Slot "collections.deque" "pop" "collections.deque.pop" :=
  .of (owner := "collections.deque") (n := "pop") (by rw [typeLookup_type, builtinLookup_eq_fast]; kernel_rfl) (by decide +kernel) (by decide +kernel) (by decide +kernel)
    (by first | exact .inl (by decide +kernel) | exact .inr (by decide +kernel)) (by rw [isSubtype_type]; kernel_rfl)
theorem dq_entry_pop : entryFor table "collections.deque.pop" = some Builtin.«collections.deque.pop» := entryFor_of_tree (by kernel_rfl)
theorem dq_args_pop (a : Value) : argsOk "collections.deque.pop" ⟨[a], []⟩ := by
  unfold argsOk; rw [signature?_of (id := "collections.deque.pop") (n := ['p', 'o', 'p']) (o := ['e', 'u', 'q', 'e', 'd', '.', 's', 'n', 'o', 'i', 't', 'c', 'e', 'l', 'l', 'o', 'c']) (by kernel_rfl) dq_owner]; kernel_rfl
theorem dq_type_pop : typeOf (.builtin "collections.deque.pop") = pure (.type "method_descriptor") := by show builtinType _ = _; rw [builtinType_eq_fast]; kernel_rfl
theorem dq_slot_len : Slot "collections.deque" "__len__" "collections.deque.__len__" :=
  .of (owner := "collections.deque") (n := "__len__") (by rw [typeLookup_type, builtinLookup_eq_fast]; kernel_rfl) (by decide +kernel) (by decide +kernel) (by decide +kernel)
    (by first | exact .inl (by decide +kernel) | exact .inr (by decide +kernel)) (by rw [isSubtype_type]; kernel_rfl)
theorem dq_entry_len : entryFor table "collections.deque.__len__" = some Builtin.«collections.deque.__len__» := entryFor_of_tree (by kernel_rfl)
theorem dq_args_len (a : Value) : argsOk "collections.deque.__len__" ⟨[a], []⟩ := by
  unfold argsOk; rw [signature?_of (id := "collections.deque.__len__") (n := ['_', '_', 'n', 'e', 'l', '_', '_']) (o := ['e', 'u', 'q', 'e', 'd', '.', 's', 'n', 'o', 'i', 't', 'c', 'e', 'l', 'l', 'o', 'c']) (by kernel_rfl) dq_owner]; kernel_rfl
theorem dq_slot_init : Slot "collections.deque" "__init__" "collections.deque.__init__" :=
  .of (owner := "collections.deque") (n := "__init__") (by rw [typeLookup_type, builtinLookup_eq_fast]; kernel_rfl) (by decide +kernel) (by decide +kernel) (by decide +kernel)
    (by first | exact .inl (by decide +kernel) | exact .inr (by decide +kernel)) (by rw [isSubtype_type]; kernel_rfl)
theorem dq_entry_init : entryFor table "collections.deque.__init__" = some Builtin.«collections.deque.__init__» := entryFor_of_tree (by kernel_rfl)

abbrev dqO (vs : List Value) (n : Int) : Obj := { cls := .type "collections.deque", data := .fields (.none :: rawInt n :: vs).toArray }
section
variable {prog : Program} {w : World} {A : Around} {E : Value → Shared → Prop} {s : Shared} {h₀ : Heap} {L : Addr} {m : Str → Option Value} {news news' : List (Addr × Obj)} {q : Addr} {vs : List Value} {n : Int}
theorem dq_typeIs (ho : s.heap.get? q = some (dqO vs n)) : s.TypeIs (.ref q) "collections.deque" := ⟨_, ho, rfl⟩
theorem dq_method {M : Model} {name : Str} {id : String} {pl : Sem Bool} {Q : Value × List Value → Shared → Prop} (slot : Slot "collections.deque" name id) (hty : typeOf (.builtin id) = pure (.type "method_descriptor"))
    (N : News h₀ L s.heap news) (hm : (q, dqO vs n) ∈ news) (h : Q (.builtin id, [.ref q]) s) : wpAny M A (getMethod (.ref q) name pl) Q E s :=
  getMethod_builtin (dq_typeIs (N.get hm)) dq_attrs slot hty (fun a e => by cases e; exact ⟨_, N.get hm, rfl⟩) h
theorem dq_change {f : Array Value → Array Value} {vs' : List Value} {Q : Unit → Shared → Prop} (F : Fr h₀ L s.heap m) (N : News h₀ L s.heap news) (U : Upd q (dqO vs n) (dqO vs' (n + 1)) news news')
    (hf : f vs.toArray = vs'.toArray) (hsz : vs'.length ≤ 1000000)
    (h : ∀ h', Fr h₀ L h' m → News h₀ L h' news' → Q () { s with heap := h' }) : wpAny (model prog w) A (Builtin.Deque.change (.ref q) f) Q E s := by
  obtain ⟨pre, post, rfl, rfl, a, b⟩ := U.split
  have z := N (q, dqO vs n) (List.mem_append.mpr (.inr (.head _)))
  unfold Builtin.Deque.change Builtin.Deque.state field fieldsOf
  dsimp only
  refine wpAny_bind (wpAny_bind (wpAny_bind (wpAny_bind (wpAny_load z.1 (wpAny_pure ?_)))))
  have e1 : (Value.none :: rawInt n :: vs).toArray[1]? = some (rawInt n) := by simp
  rw [e1]
  refine wpAny_pure (wpAny_pure ?_)
  unfold updateFields
  refine wpAny_bind (wpAny_load z.1 ?_)
  dsimp only
  have e : (Obj.mapFields (fun vs => #[vs.getD 0 .none, rawInt (if true = true then n + 1 else n)] ++ f (vs.extract 2 vs.size)) (dqO vs n)) = dqO vs' (n + 1) := by
    unfold Obj.mapFields
    simp [hf]
  have U' := news_upd F N a b e rfl
  refine wpAny_bind (wpAny_update z.1 ?_)
  unfold lookBehind
  have g := (U'.2 (q, dqO vs' (n + 1)) (by simp)).1
  refine wpAny_bind (wpAny_loadPart g ?_)
  have k : (dqO vs' (n + 1)).data.pastItsLine = none := by
    show (Data.fields _).pastItsLine = none
    unfold Data.pastItsLine
    simp [sizeLine]
    omega
  rw [k]
  exact wpAny_pure (h _ U'.1 U'.2)

theorem dq_append {x : Value} {Q : Value → Shared → Prop} (F : Fr h₀ L s.heap m) (N : News h₀ L s.heap news) (U : Upd q (dqO vs n) (dqO (vs ++ [x]) (n + 1)) news news') (hsz : vs.length ≤ 900000)
    (h : ∀ h', Fr h₀ L h' m → News h₀ L h' news' → Q .none { s with heap := h' }) : wpAny (model prog w) A (call (.builtin "collections.deque.append") [.ref q, x]) Q E s := by
  have hm : (q, dqO vs n) ∈ news := by obtain ⟨pre, post, rfl, _⟩ := U.split; simp
  refine wpAny_call_entry dq_slot_append (dq_typeIs (N.get hm)) dq_entry_append ?_ (dq_args_append _ _)
  show wpAny _ _ (Builtin.Deque.pushRight (.ref q) x >>= fun _ => ret .none) _ _ s
  unfold Builtin.Deque.pushRight
  refine wpAny_bind (wpAny_bind (dq_change F N U (by simp) (by simp; omega) fun h' F' N' => ?_))
  have hm' : (q, dqO (vs ++ [x]) (n + 1)) ∈ news' := by obtain ⟨pre, post, _, rfl, _⟩ := U.split; simp
  have g := N'.get hm'
  unfold Builtin.Deque.maxlen field fieldsOf
  refine wpAny_bind (wpAny_bind (wpAny_bind (wpAny_bind (wpAny_load g (wpAny_pure ?_)))))
  have e1 : (Value.none :: rawInt (n + 1) :: (vs ++ [x])).toArray[0]? = some .none := by simp
  rw [e1]
  exact wpAny_pure (wpAny_pure (wpAny_pure (wpAny_pure ⟨_, rfl, h _ F' N'⟩)))
theorem dq_appendleft {x : Value} {Q : Value → Shared → Prop} (F : Fr h₀ L s.heap m) (N : News h₀ L s.heap news) (U : Upd q (dqO vs n) (dqO (x :: vs) (n + 1)) news news') (hsz : vs.length ≤ 900000)
    (h : ∀ h', Fr h₀ L h' m → News h₀ L h' news' → Q .none { s with heap := h' }) : wpAny (model prog w) A (call (.builtin "collections.deque.appendleft") [.ref q, x]) Q E s := by
  have hm : (q, dqO vs n) ∈ news := by obtain ⟨pre, post, rfl, _⟩ := U.split; simp
  refine wpAny_call_entry dq_slot_appendleft (dq_typeIs (N.get hm)) dq_entry_appendleft ?_ (dq_args_appendleft _ _)
  show wpAny _ _ (Builtin.Deque.pushLeft (.ref q) x >>= fun _ => ret .none) _ _ s
  unfold Builtin.Deque.pushLeft
  refine wpAny_bind (wpAny_bind (dq_change F N U (by simp) (by simp; omega) fun h' F' N' => ?_))
  have hm' : (q, dqO (x :: vs) (n + 1)) ∈ news' := by obtain ⟨pre, post, _, rfl, _⟩ := U.split; simp
  have g := N'.get hm'
  unfold Builtin.Deque.maxlen field fieldsOf
  refine wpAny_bind (wpAny_bind (wpAny_bind (wpAny_bind (wpAny_load g (wpAny_pure ?_)))))
  have e1 : (Value.none :: rawInt (n + 1) :: (x :: vs)).toArray[0]? = some .none := by simp
  rw [e1]
  exact wpAny_pure (wpAny_pure (wpAny_pure (wpAny_pure ⟨_, rfl, h _ F' N'⟩)))
theorem dq_pop {x : Value} {Q : Value → Shared → Prop} (F : Fr h₀ L s.heap m) (N : News h₀ L s.heap news) (U : Upd q (dqO (vs ++ [x]) n) (dqO vs (n + 1)) news news') (hsz : vs.length ≤ 900000)
    (h : ∀ h', Fr h₀ L h' m → News h₀ L h' news' → Q x { s with heap := h' }) : wpAny (model prog w) A (call (.builtin "collections.deque.pop") [.ref q]) Q E s := by
  have hm : (q, dqO (vs ++ [x]) n) ∈ news := by obtain ⟨pre, post, rfl, _⟩ := U.split; simp
  have g := N.get hm
  refine wpAny_call_entry dq_slot_pop (dq_typeIs (N.get hm)) dq_entry_pop ?_ (dq_args_pop _)
  show wpAny _ _ (Builtin.«collections.deque.pop» ⟨[.ref q], []⟩) _ _ s
  unfold Builtin.«collections.deque.pop» selfOnly noKeywords
  refine wpAny_bind (wpAny_bind (wpAny_pure (wpAny_pure ?_)))
  unfold Builtin.Deque.items fieldsOf
  refine wpAny_bind (wpAny_bind (wpAny_bind (wpAny_load g (wpAny_pure ?_))))
  refine wpAny_pure ?_
  have e1 : ((Value.none :: rawInt n :: (vs ++ [x])).toArray.extract 2 (Value.none :: rawInt n :: (vs ++ [x])).toArray.size).back? = some x := by
    have e2 : (vs ++ [x]).take (vs.length + 1) = vs ++ [x] := List.take_of_length_le (by simp)
    simp [e2]
  rw [e1]
  refine wpAny_bind (dq_change F N U (by simp) (by omega) fun h' F' N' => ?_)
  exact wpAny_pure ⟨_, rfl, h _ F' N'⟩
theorem dq_truthy {Q : Bool → Shared → Prop} (N : News h₀ L s.heap news) (hm : (q, dqO vs n) ∈ news) (hsz : vs.length ≤ 900000)
    (h : Q (!vs.isEmpty) { s with toks := s.toks + 1 + 1 }) : wpAny (model prog w) A (truthy (.ref q)) Q E s := by
  have g := N.get hm
  have hT := dq_typeIs g
  have key : wpAny (model prog w) A (runValue (.builtin "len" ⟨[.ref q], []⟩)) (fun r s' => r = .int vs.length (s.toks + 1) ∧ Q (!vs.isEmpty) s') E s := by
    refine wpAny_runValue (codeAny_builtin entry_len ?_)
    rw [Around.under_plainId plain_len _]
    unfold Builtin.«len»
    refine wpAny_bind (m := oneArg "len" _) (wpAny_pure ?_)
    refine wpAny_bind (m := callSpecial? (.ref q) (Str.ofString "__len__")) (wpAny_callSpecial?_slot (name := Str.ofString "__len__") hT dq_slot_len
      (wpAny_call_entry dq_slot_len hT dq_entry_len ?_ (dq_args_len _)))
    show wpAny _ _ (Builtin.«collections.deque.__len__» ⟨[.ref q], []⟩) _ _ _
    unfold Builtin.«collections.deque.__len__» slotArgs Builtin.Deque.size fieldsOf
    simp only [List.isEmpty_nil, Bool.not_true, Bool.false_eq_true, ↓reduceIte, bind_assoc, List.length_nil, bne_self_eq_false]
    refine wpAny_bind (wpAny_pure ?_)
    dsimp only
    refine wpAny_bind (wpAny_bind (wpAny_load g (wpAny_pure ?_)))
    refine wpAny_bind (wpAny_pure ?_)
    have e1 : (Value.none :: rawInt n :: vs).toArray.size - 2 = vs.length := by simp
    rw [e1]
    refine wpAny_bind (wpAny_mkInt (wpAny_pure ⟨_, rfl, ?_⟩))
    refine wpAny_bind (wpAny_holding (wpAny_pure ?_))
    refine wpAny_bind (wpAny_letGo ?_)
    show wpAny _ _ (if ((vs.length : Nat) : Int) < 0 then _ else _) _ _ _
    rw [if_neg (by omega)]
    show wpAny _ _ (if ((vs.length : Nat) : Int) ≥ 2 ^ 63 then _ else _) _ _ _
    rw [if_neg (by omega)]
    exact wpAny_bind (wpAny_mkInt (wpAny_pure ⟨rfl, h⟩))
  unfold truthy
  refine wpAny_bind (wpAny_callSpecial?_none (name := Str.ofString "__bool__") hT (by rw [typeLookup_type, builtinLookup_eq_fast]; kernel_rfl) ?_)
  refine wpAny_bind (wpAny_specialOf (name := Str.ofString "__len__") hT dq_slot_len.lookup ?_)
  refine wpAny_bind (wpAny_mono key (fun r s' h' => ?_) fun _ _ e => e)
  obtain ⟨rfl, hq⟩ := h'
  refine wpAny_pure ?_
  have e : ((vs.length : Int) != 0) = !vs.isEmpty := by cases vs <;> simp <;> omega
  first | exact hq | (show Q ((vs.length : Int) != 0) s'; rw [e]; exact hq)
end
end Mine

namespace Mine
theorem dq_mro : mroOf (.type "collections.deque") = pure [.type "collections.deque", .type "object"] := by rw [mroOf_type]; kernel_rfl
theorem dq_lookup_new : typeLookup (.type "collections.deque") "__new__" = pure (some (.builtin "collections.deque.__new__")) := by rw [typeLookup_type, builtinLookup_eq_fast]; kernel_rfl
theorem dq_sub_self : isSubtype (.type "collections.deque") (.type "collections.deque") = pure true := by rw [isSubtype_type]; kernel_rfl
theorem dq_called : TypeCalled "collections.deque" "collections.deque.__new__" "collections.deque.__init__" :=
  ⟨by decide +kernel, by decide +kernel, ⟨_, _, dq_mro⟩, madeBy_type dq_mro dq_lookup_new (by decide +kernel), by decide +kernel, by rw [isSubtype_type]; kernel_rfl, dq_slot_init⟩
theorem dq_typeCall : checkTypeCall "collections.deque" ⟨[], []⟩ = pure () := by kernel_rfl
theorem dq_newCall : checkBuiltinCall "collections.deque.__new__" ⟨[.type "collections.deque"], []⟩ = pure () := by kernel_rfl
theorem dq_entry_new : entryFor table "collections.deque.__new__" = some Builtin.«collections.deque.__new__» := entryFor_of_tree (by kernel_rfl)
theorem dq_plain_new : plainId "collections.deque.__new__" = true := by decide +kernel
section
variable {prog : Program} {w : World} {A : Around} {E : Value → Shared → Prop} {s : Shared}
theorem dq_code_new {Q₁ : Value → Shared → Prop}
    (h : Q₁ (.ref s.heap.objs.size) { s with heap := s.heap.push (dqO [] 0) }) :
    codeAny (model prog w) A (.call (.builtin "collections.deque.__new__") ⟨[.type "collections.deque"], []⟩) (wants Q₁ E) s := by
  refine codeAny_of_tree ?_
  show wpAny _ A.in1 (do checkBuiltinCall "collections.deque.__new__" ⟨[.type "collections.deque"], []⟩; again (.builtin "collections.deque.__new__" ⟨[.type "collections.deque"], []⟩)) _ _ s
  refine wpAny_bind (wpAny_of_eq dq_newCall (wpAny_pure ⟨plainId_quiet dq_plain_new _, codeAny_builtin dq_entry_new ?_⟩))
  rw [Around.under_plainId dq_plain_new _]
  show wpAny _ _ (Builtin.Deque.newArgs Builtin.Deque.ty ⟨[.type "collections.deque"], []⟩ >>= fun p => Builtin.Deque.new p.1 #[] none >>= fun v => ret v) _ _ s
  refine wpAny_bind ?_
  unfold Builtin.Deque.newArgs
  dsimp only
  refine wpAny_bind (wpAny_pure ?_)
  simp only [Bool.not_true, Bool.false_eq_true, if_false]
  refine wpAny_bind (wpAny_of_eq dq_sub_self ?_)
  simp only [Bool.not_true, Bool.false_eq_true, if_false]
  refine wpAny_pure ?_
  refine wpAny_bind ?_
  unfold Builtin.Deque.new
  have hd : typeHasDict (.type "collections.deque") = false := by decide +kernel
  have hz : ¬ (#[] : Array Value).size > sizeLine := by decide
  dsimp only
  rw [if_neg hz, hd]
  simp only [Bool.false_eq_true, if_false]
  refine wpAny_bind (wpAny_pure ?_)
  exact wpAny_newObj_type (wpAny_pure h) (by show _ ≤ _; decide)
theorem dq_args_init (a : Value) : argsOk "collections.deque.__init__" ⟨[a], []⟩ := by
  unfold argsOk; rw [signature?_of (id := "collections.deque.__init__") (n := ['_', '_', 't', 'i', 'n', 'i', '_', '_']) (o := ['e', 'u', 'q', 'e', 'd', '.', 's', 'n', 'o', 'i', 't', 'c', 'e', 'l', 'l', 'o', 'c']) (by kernel_rfl) dq_owner]; kernel_rfl

theorem dq_clear0 {a : Addr} {R : Fin → Shared → Prop} {E' : Value → Shared → Prop} {A' : Around} (g : s.heap.get? a = some (dqO [] 0)) (h : ∀ s', s' = s → R (.done (.ret .none)) s') :
    wpAny (model prog w) A' (Builtin.Deque.clear (.ref a) >>= fun _ => ret .none) R E' s := by
  unfold Builtin.Deque.clear Builtin.Deque.items fieldsOf
  refine wpAny_bind (wpAny_bind (wpAny_bind (wpAny_bind (wpAny_load g (wpAny_pure ?_)))))
  refine wpAny_pure ?_
  have e1 : ((Value.none :: rawInt 0 :: ([] : List Value)).toArray.extract 2 (Value.none :: rawInt 0 :: ([] : List Value)).toArray.size).size > 0 ↔ False := by simp
  simp only [e1, if_false]
  exact wpAny_pure (wpAny_pure (h _ rfl))
theorem dq_new0 {Q : Value → Shared → Prop}
    (h : ∀ h', h'.objs.size = s.heap.objs.size + 1 → (∀ b o, s.heap.get? b = some o → h'.get? b = some o) → h'.get? s.heap.objs.size = some (dqO [] 0) → Q (.ref s.heap.objs.size) { s with heap := h' }) :
    wpAny (model prog w) A (call (.type "collections.deque") []) Q E s := by
  obtain ⟨c, tl, hmro⟩ := dq_called.mro
  have hmade := dq_called.made
  have hsub := dq_called.sub
  refine wpAny_call (codeAny_of_tree ?_)
  show wpAny _ _ (callAny (.type "collections.deque") _) _ _ _
  refine wpAny_pure ⟨Code.quiet_builtin _ (by decide +kernel), codeAny_builtin F.entry_type_call ?_⟩
  rw [Around.under_plain (weight_type_call_type "collections.deque" [] []) rfl]
  have h1 := dq_called.notType
  have h2 := dq_called.canCreate
  have hct := dq_typeCall
  repeat (any_goals (first | assumption | wp_step))
  refine codeAny_mono (dq_code_new (E := E) (Q₁ := fun obj s₁ => obj = .ref s.heap.objs.size ∧ s₁ = { s with heap := s.heap.push (dqO [] 0) }) ⟨rfl, rfl⟩) fun r s₁ hr => ?_
  cases r with
  | error e => exact hr
  | ok fl =>
    cases fl with
    | ret obj =>
      obtain ⟨rfl, rfl⟩ := hr
      have hS : (s.heap.push (dqO [] 0)).get? s.heap.objs.size = some (dqO [] 0) := Heap.get?_push_size _ rfl
      have hT : Shared.TypeIs { s with heap := s.heap.push (dqO [] 0) } (.ref s.heap.objs.size) "collections.deque" := ⟨_, hS, rfl⟩
      have hli := dq_called.init.lookup
      have hbi := dq_called.init.bind (.ref s.heap.objs.size)
      repeat (any_goals (first | assumption | wp_step))
      refine codeAny_mono (codeAny_call_builtin (R := wants (fun r s₂ => r = .none ∧ Q (.ref s.heap.objs.size) s₂) E) dq_called.init.plain dq_entry_init (dq_called.init.check _ _ _ _ _ _ _ _ hT (dq_args_init _) ?_)) fun r₂ s₂ hr₂ => ?_
      · show wpAny _ _ (Builtin.«collections.deque.__init__» ⟨[.ref s.heap.objs.size], []⟩) _ _ _
        have e0 : Builtin.«collections.deque.__init__» ⟨[.ref s.heap.objs.size], []⟩ = (setField (.ref s.heap.objs.size) 0 .none >>= fun _ => Builtin.Deque.clear (.ref s.heap.objs.size) >>= fun _ => ret .none) := by
          first | rfl | (unfold Builtin.«collections.deque.__init__»; simp)
        rw [e0]
        unfold setField updateField
        refine wpAny_bind (wpAny_bind (wpAny_load hS ?_))
        have e1 : 0 < (Value.none :: rawInt 0 :: ([] : List Value)).toArray.size := by simp
        dsimp only
        rw [if_pos e1]
        have e2 : Obj.mapFields (·.setIfInBounds 0 .none) (dqO [] 0) = dqO [] 0 := by unfold Obj.mapFields; rfl
        refine wpAny_update hS ?_
        have sb := Heap.SameBut.update (s.heap.push (dqO [] 0)) s.heap.objs.size (Obj.mapFields (·.setIfInBounds 0 .none))
        have g2 : ((s.heap.push (dqO [] 0)).update s.heap.objs.size (Obj.mapFields (·.setIfInBounds 0 .none))).get? s.heap.objs.size = some (dqO [] 0) := by
          rw [Heap.get?_update_self _ hS (by rw [e2]; rfl), e2]
        refine dq_clear0 (s := { s with heap := (s.heap.push (dqO [] 0)).update s.heap.objs.size (Obj.mapFields (·.setIfInBounds 0 .none)) }) g2 ?_
        rintro _ rfl
        refine ⟨rfl, h _ (by rw [sb.1, Heap.size_push]) (fun b o e => ?_) g2⟩
        rw [sb.2 b (Nat.ne_of_lt (Heap.lt_size e))]
        exact Heap.get?_push_of_some _ e
      · cases r₂ with
        | error e => exact hr₂
        | ok fl₂ =>
          cases fl₂ with
          | ret r =>
            obtain ⟨rfl, hq⟩ := hr₂
            repeat (any_goals (first | assumption | wp_step))
          | _ => exact hr₂.elim
    | _ => exact hr.elim
theorem dq_new {h₀ : Heap} {L : Addr} {m : Str → Option Value} {news : List (Addr × Obj)} {Q : Value → Shared → Prop} (F : Fr h₀ L s.heap m) (N : News h₀ L s.heap news)
    (h : ∀ q h', Fr h₀ L h' m → News h₀ L h' ((q, dqO [] 0) :: news) → (∀ p ∈ news, p.1 < q) → Q (.ref q) { s with heap := h' }) : wpAny (model prog w) A (call (.type "collections.deque") []) Q E s := by
  refine dq_new0 fun h' hsz hk hg => h _ h' ?_ ?_ fun p hp => Heap.lt_size (N p hp).1
  · obtain ⟨oL, a1, a2, hL, a3⟩ := F.ns
    exact ⟨⟨oL, a1, a2, hk _ _ hL, a3⟩, fun b o' e => hk _ _ (F.keep b o' e), F.above⟩
  · obtain ⟨oL, _, _, hL, _⟩ := F.ns
    intro p hp
    rcases List.mem_cons.mp hp with rfl | hp
    · refine ⟨hg, Nat.ne_of_gt (Heap.lt_size hL), ?_⟩
      cases hq : h₀.get? s.heap.objs.size with
      | none => rfl
      | some o' => exact absurd (Heap.lt_size (F.keep _ _ hq)) (Nat.lt_irrefl _)
    · exact ⟨hk _ _ (N p hp).1, (N p hp).2.1, (N p hp).2.2⟩
end
end Mine

namespace Mine
abbrev ent (P : Params) (k : String) (t : Tok) (v : Value) : DictEntry := ⟨PyData.keyHash P (Str.ofString k), .str (Str.ofString k) t, v⟩
abbrev ar (hd : Option Value) (d : Nat) (fs : List Env) (gs : Option (List Code)) (u : Nat) : Around := { handled := hd, depth := d, frames := some fs, guards := gs, units := u }
abbrev prog : Program := PySem.Challenge.pw_kq0019_01
abbrev fenv (ns : List (Str × NameKind)) (ig ic : Bool) (mo : List (Str × Const)) (gl : Addr) (cs : List (Str × Addr)) (q : Str) (fo : Option Addr) (cdv : Value) (bi : Addr) (L : Addr) : Env :=
  { scope := { kind := .function, names := ns, isGenerator := ig, isCoroutine := ic, more := mo }, locals := L, globals := gl, cells := cs, qual := q, func := fo, code := cdv, frame := some L, builtins := bi }
/-- the objects of a StringIO: x its text, p its place, toks of the keys kt -/
theorem units_kw (A : Around) (C : Addr) (vals : List Value) (kw : List (Str × Value)) : (A.under (.builtin "type.__call__" ⟨.ref C :: vals, kw⟩)).units = A.units + 1 := rfl
structure IoT where
  (a b c d e : Tok)
abbrev ioD (P : Params) (kt : IoT) (x : Str) (p : Nat) (v : Tok) : Obj := dictOf [ent P "_StringIO__newline" kt.a (.str (Str.ofString "\n") kt.b), ent P "_StringIO__buf" kt.c (.str x kt.d), ent P "_StringIO__pos" kt.e (.int p v)] 3
structure LxT where
  (k0 k1 k2 k3 k4 k5 k6 k7 k8 k9 k10 k11 k12 k13 k14 k15 k16 k17 k18 : Tok)
  (c4 c5 c6 c8 c9 c10 c14 c18 : Tok)
/-- the lexer's dict: io its stream, f its name, ev its eof, cm its commenters, wc its wordchars, sp whitespace_split, sv its state, ln its line, tk its token -/
abbrev lexD (P : Params) (T : LxT) (b sp : Bool) (ev : Value) (cm wc : Str) (pb fs io : Addr) (f sv : Value) (ln : Int) (tl : Tok) (tk : Str) (tt : Tok) : Obj := dictOf [
  ent P "instream" T.k0 (.ref io), ent P "infile" T.k1 f, ent P "posix" T.k2 (.bool b), ent P "eof" T.k3 ev, ent P "commenters" T.k4 (.str cm T.c4), ent P "wordchars" T.k5 (.str wc T.c5),
  ent P "whitespace" T.k6 (.str (Str.ofString " \t\x0d\n") T.c6), ent P "whitespace_split" T.k7 (.bool sp), ent P "quotes" T.k8 (.str (Str.ofString "'\"") T.c8), ent P "escape" T.k9 (.str (Str.ofString "\\") T.c9),
  ent P "escapedquotes" T.k10 (.str (Str.ofString "\"") T.c10), ent P "state" T.k11 sv, ent P "pushback" T.k12 (.ref pb), ent P "lineno" T.k13 (.int ln tl), ent P "debug" T.k14 (.int 0 T.c14),
  ent P "token" T.k15 (.str tk tt), ent P "filestack" T.k16 (.ref fs), ent P "source" T.k17 .none, ent P "_punctuation_chars" T.k18 (.str (Str.ofString "") T.c18)] 19
def ch1 (x : Str) (p : Nat) : Str := ⟨(x.cps.toList.drop p |>.take 1).toArray⟩
end Mine
namespace Mine
theorem sp_is : Str.ofString " " = ⟨#[32]⟩ := by decide +kernel
theorem slice_plus {x : Str} {a b : Int} (h0 : 0 ≤ a) (h : a ≤ b) (hb : b ≤ x.length) :
    Txt.slice (Txt.slice x (some a) (some b) ++ Str.ofString " ") none (some (-1)) = ⟨((x.cps.toList.drop a.toNat).take (b - a).toNat).toArray⟩ := by
  have e1 := eq_of_beq (slice_closes (x := x) (i := a) (j := b) ⟨h0, h, by simpa [Str.length] using hb⟩)
  rw [e1, sp_is]
  generalize (x.cps.toList.drop a.toNat).take (b - a).toNat = l
  have e2 : ((⟨l.toArray⟩ : Str) ++ (⟨#[32]⟩ : Str)) = ⟨(l ++ [32]).toArray⟩ := by
    show Str.append _ _ = _
    simp [Str.append]
  rw [e2]
  have hl : ((⟨(l ++ [32]).toArray⟩ : Str).length : Int) = l.length + 1 := by simp [Str.length]
  have e3 := eq_of_beq (slice_closes_to_neg (x := ⟨(l ++ [32]).toArray⟩) (j := -1) (k := l.length) (by omega) (by omega) (by omega))
  rw [e3]
  simp
theorem ch1_end {x : Str} {pos : Nat} {a b : Int} (ha : a = pos) (hb : b = if pos + 1 < x.length then (pos : Int) + 1 else x.length) (hp : pos < x.length) :
    Txt.slice (Txt.slice x (some a) (some b) ++ Str.ofString " ") none (some (-1)) = ch1 x pos := by
  subst ha
  have hb2 : b = (pos : Int) + 1 := by split at hb <;> omega
  subst hb2
  rw [slice_plus (by omega) (by omega) (by omega)]
  unfold ch1
  congr 3
  omega
theorem ch1_over {x : Str} {pos : Nat} (h : (x.length : Int) ≤ pos) : ch1 x pos = Str.ofString "" := by
  have e : Str.ofString "" = ⟨#[]⟩ := by decide +kernel
  rw [e]
  unfold ch1
  have : x.cps.toList.drop pos = [] := List.drop_of_length_le (by simp [Str.length] at h ⊢; omega)
  rw [this]; rfl
/-- the post as a variable -/
theorem post_gen {α : Type} {M : Model} {A : Around} {t : Sem α} {Q : α → Shared → Prop} {E : Value → Shared → Prop} {s : Shared} (h : ∀ Q' : α → Shared → Prop, (∀ f s', Q f s' → Q' f s') → wpAny M A t Q' E s) : wpAny M A t Q E s := h Q fun _ _ h => h
/-- the post as a variable, and nothing raised -/
theorem post_genF {α : Type} {M : Model} {A : Around} {t : Sem α} {Q : α → Shared → Prop} {E : Value → Shared → Prop} {s : Shared} (h : ∀ Q' : α → Shared → Prop, (∀ f s', Q f s' → Q' f s') → wpAny M A t Q' (fun _ _ => False) s) : wpAny M A t Q E s :=
  wpAny_mono (h Q fun _ _ h => h) (fun _ _ h => h) fun _ _ h => h.elim
theorem rm0 {d n m : Nat} (h : d < n) (e : Nat.ble n m = true) : d < m := Nat.lt_of_lt_of_le h (Nat.le_of_ble_eq_true e)
theorem rm1 {d n m k : Nat} (h : d < n) (e : Nat.ble (n + k) m = true) : d + k < m := Nat.lt_of_lt_of_le (Nat.add_lt_add_right h k) (Nat.le_of_ble_eq_true e)
theorem rm2 {d n m k j : Nat} (h : d < n) (e : Nat.ble (n + k + j) m = true) : d + k + j < m := Nat.lt_of_lt_of_le (Nat.add_lt_add_right (Nat.add_lt_add_right h k) j) (Nat.le_of_ble_eq_true e)
theorem lz {a n m : Nat} (h : a ≤ n) (e : Nat.ble n m = true) : a ≤ m := Nat.le_trans h (Nat.le_of_ble_eq_true e)
end Mine

local macro_rules | `(tactic| walk_at "room") => `(tactic| first | exact Nat.le_of_ble_eq_true rfl | exact Mine.rm0 (by with_reducible assumption) (by rfl) | exact Mine.rm1 (by with_reducible assumption) (by rfl) | exact Mine.rm2 (by with_reducible assumption) (by rfl) | omega)
local macro_rules | `(tactic| k_room) => `(tactic| ((try simp only [depth_under_make, depth_under_kw, depth_in1, depth_deeper, depth_caller, recursionLimit]); (try dsimp only); walk_at "room"))
local macro_rules | `(tactic| k_units) => `(tactic| ((try simp only [cLine, Around.deeper_units, Around.in1_units, units_under_make, Mine.units_kw]); (try dsimp only); walk_at "room"))
local macro_rules | `(tactic| k_all) => `(tactic| assumption)
local macro_rules | `(tactic| walk_at "subscriptTail Attribute") => `(tactic| (k_here; k_dflt (refine kba_turn (value' := PySem.Expr.Name (PySem.Str.ofString "_") ⟨0, 0, 0, 0⟩) (fun _ => rfl) ?_)))
local macro_rules | `(tactic| walk_at "subscriptTail BinOp") => `(tactic| (k_here; k_dflt (refine kba_turn (value' := PySem.Expr.Name (PySem.Str.ofString "_") ⟨0, 0, 0, 0⟩) (fun _ => rfl) ?_)))
local macro_rules | `(tactic| walk_at "conj") => `(tactic| first | with_reducible assumption | exact And.left (by with_reducible assumption) | exact And.left (And.right (by with_reducible assumption)) | exact And.left (And.right (And.right (by with_reducible assumption))) | exact And.left (And.right (And.right (And.right (by with_reducible assumption)))) | exact And.left (And.right (And.right (And.right (And.right (by with_reducible assumption))))) | exact And.left (And.right (And.right (And.right (And.right (And.right (by with_reducible assumption)))))))
local macro_rules | `(tactic| k_ne) => `(tactic| (refine neN ?_; (try dsimp only); first | with_reducible assumption | (with_reducible refine Ne.symm ?_; with_reducible assumption) | (refine Nat.ne_of_lt ?_; walk_at "conj") | (refine Nat.ne_of_gt ?_; walk_at "conj") | (refine Nat.ne_of_gt (Nat.lt_trans ?_ (by with_reducible assumption)); walk_at "conj")))

section
namespace Mine
/-- the end of an except clause's suite in a frame with a cell -/
def CatchEnd (h₀ : Heap) (L : Addr) (n : Str) (Q : Flow → Shared → Prop) (f : Flow) (s : Shared) : Prop :=
  ∃ m news, Fr h₀ L s.heap m ∧ News h₀ L s.heap news ∧ ∀ h' v, Fr h₀ L h' (fun x => if x = n then v else m x) → News h₀ L h' news → Q f { s with heap := h', toks := s.toks + 1 }
theorem CatchEnd.mk {h₀ : Heap} {L : Addr} {n : Str} {Q : Flow → Shared → Prop} {f : Flow} {s : Shared} {m : Str → Option Value} {news : List (Addr × Obj)} (F : Fr h₀ L s.heap m) (N : News h₀ L s.heap news)
    (h : ∀ h' v, Fr h₀ L h' (fun x => if x = n then v else m x) → News h₀ L h' news → Q f { s with heap := h', toks := s.toks + 1 }) : CatchEnd h₀ L n Q f s := ⟨m, news, F, N, h⟩
section
variable {w : World} {A : Around} {E : Value → Shared → Prop} {s' : Shared} {base h₀ G : Heap} {L e t : Addr} {m : Str → Option Value} {env : Env}
  {vs : List Value} {n : Str} {b₀ : Stmt} {suite : List Stmt} {pos np : Pos} {rest : List ExceptHandler} {Q : Flow → Shared → Prop} {news : List (Addr × Obj)} {x : Str} {X T' : String}
theorem caught_C (hfr : A.frames = some [env]) (hf : env.frame = some L) (hloc : env.locals = L) (R : RaisedS base G [env] e (.type X) t vs news s'.heap) (F : Fr h₀ L G m) (hsm : G.UpToSlots s'.heap)
    (hexc : isSubtype (.type T') (.type "BaseException") = pure true) (hnt : isSubtype (.type ((Manifest.find? T').elim "type" fun y => y.metatype)) (.type "tuple") = pure false) (hsub : isSubtype (.type X) (.type T') = pure true)
    (hlo : env.kindOf n = some .local) (hcl : (env.scope.kind == .class || (env.scope.kind == .module && env.locals != env.globals)) = false)
    (name : ∀ h₅ (Q' : Value → Shared → Prop) (E' : Value → Shared → Prop), Fr h₀ L h₅ m → Q' (.type T') { s' with heap := h₅ } → wpAny (model prog w) (A.mark (some (.ref e))) (eval (.Name x np) env) Q' E' { s' with heap := h₅ })
    (k : ∀ h' news₂ tk (E' : Value → Shared → Prop), Fr h₀ L h' (fun y => if y = n then some (.ref e) else m y) → News h₀ L h' news₂ → Got news₂ e t (.type X) vs → News h₀ L h' news →
      wpAny (model prog w) (A.mark (some (.ref e))) (execs (b₀ :: suite) env) (CatchEnd h₀ L n Q) E' { s' with heap := h', toks := tk }) :
    wpAny (model prog w) A (noteFrame (.ref e) env)
      (fun _ s₂ => wpAny (model prog w) A (setFlight (.ref e) none) (fun _ s₃ =>
        wpAny (model prog w) A (handleBy (.ref e) env (.ExceptHandler (some (.Name x np)) (some n) (b₀ :: suite) pos :: rest)) Q E s₃) E s₂) E s' := by
  obtain ⟨⟨B, hB, hBG, hl, hfl, hnew⟩, htup⟩ := R
  have hL0 : h₀.get? L = none := kts_self F
  have hBG' : ∀ b o, h₀.get? b = some o → B.get? b = some o := fun b o q => hBG b o (F.keep b o q) (fun hm => by
    obtain ⟨env', he, hf'⟩ := List.mem_filterMap.mp hm
    rw [List.mem_singleton.mp he, hf] at hf'
    cases hf'
    rw [hL0] at q; cases q)
  have hfresh : ∀ b, B.get? b = none → h₀.get? b = none := fun b q => by
    cases z : h₀.get? b with
    | none => rfl
    | some o => have := hBG' b o z; rw [q] at this; cases this
  have hL : B.get? L = none := by
    obtain ⟨_, ⟨L', _, hf', hn', _⟩, _⟩ := hfl.2.2.1
    rw [hf] at hf'
    obtain rfl : L = L' := Option.some.inj hf'
    exact hn'
  refine wpAny_looks_onW hfr hf hfl fun h₄ hheld₄ hsm₄ => ?_
  refine wpAny_landsW hheld₄ fun h₅ hheld hsm₅' => ?_
  have hsm₅ := hsm₄.trans hsm₅'
  have F₅ : Fr h₀ L h₅ m := ⟨(hsm.trans hsm₅).ns F.ns, fun b o q => hheld.1 b o (hBG' b o q), F.above⟩
  obtain ⟨ob, hob, hobc⟩ := hheld.there
  refine wpAny_handleBy_builtin_as (X := X) (T := T') (b := true) hexc hnt hsub (name h₅ _ _ F₅ ⟨rfl, ⟨ob, hob, hobc⟩, ?_⟩)
  refine lands_againW hheld fun h₆ hfl₆ hsm₆ => ?_
  have F₆ : Fr h₀ L h₆ m := ⟨((hsm.trans hsm₅).trans hsm₆).ns F.ns, fun b o q => hfl₆.1 b o (hBG' b o q), F.above⟩
  obtain ⟨oe, ws, hoe, hoec, hoed, hoe0⟩ := hfl₆.first
  obtain ⟨ot, nt, hot, hotc, hotd⟩ := (htup.of_slots hsm₅).of_slots hsm₆
  have N₆ := News.more F₆ (News.more F₆ News.nil hot (fun es n q => by rw [hotd] at q; cases q) (hfresh _ hnew)) hoe (fun es n q => by rw [hoed] at q; cases q) (hfresh _ hfl₆.2.1)
  have Nl : News h₀ L h₆ news := fun q hq => ⟨hfl₆.1 _ _ (hl q hq).1, (fun z => by have := (hl q hq).1; rw [z, hL] at this; cases this), kts_none F.keep (hl q hq).2.1⟩
  refine wpAny_storeName_local hlo (hloc ▸ F₆.ns) (fun h₇ hn hs => ?_) hcl
  have hloc' : env.locals = L := hloc
  rw [hloc'] at hn hs
  have F₇ := F₆.set hn hs
  have N₇ : News h₀ L h₇ _ := N₆.set hs
  have Nl₇ : News h₀ L h₇ news := Nl.set hs
  refine wpAny_mono (k h₇ _ _ _ F₇ N₇ ⟨oe, ot, ws, nt, .head _, .tail _ (.head _), hoec, hoed, hoe0, hotc, hotd⟩ Nl₇) (fun f s₄ h => ?_) fun _ _ y => y
  obtain ⟨m₈, n₈, F₈, N₈, h⟩ := h
  refine wpAny_nameGoes_keeps hlo (hloc ▸ F₈.ns) hcl fun h' v hn hs => ?_
  rw [hloc'] at hn hs
  exact h h' v (F₈.set hn hs) (N₈.set hs)
end
end Mine

end
section
namespace Mine
/-! the plain reading of read_token for texts without quotes and backslashes, no punctuation -/
inductive LSt where | fin | white | word
deriving DecidableEq
def wsS : Str := Str.ofString " \t\x0d\n"
def isWs (c : Nat) : Bool := (Str.ofString " \t\x0d\n").cps.toList.contains c
def isCm (c : Nat) : Bool := (Str.ofString "#").cps.toList.contains c
def Plain (c : Nat) : Prop := (Str.ofString "'\"").cps.toList.contains c = false ∧ (Str.ofString "\\").cps.toList.contains c = false
def SV : LSt → Value → Prop
  | .fin, v => v = .none
  | .white, v => ∃ t, v = .str (Str.ofString " ") t
  | .word, v => ∃ t, v = .str (Str.ofString "a") t
def S (l : List Nat) : Str := ⟨l.toArray⟩
theorem S_nil : Str.ofString "" = S [] := by decide +kernel
def RV (b : Bool) (tok : List Nat) (v : Value) : Prop := if b && tok.isEmpty then v = .none else ∃ t, v = .str (S tok) t
theorem drop_next {l : List Nat} {p c : Nat} {r : List Nat} (h : l.drop p = c :: r) : l.drop (p + 1) = r ∧ p + 1 ≤ l.length := by
  have h1 : l.drop (p + 1) = (l.drop p).drop 1 := by rw [List.drop_drop]
  have h2 := congrArg List.length h
  simp at h2
  refine ⟨by rw [h1, h]; rfl, by omega⟩
end Mine

end
section
namespace Mine
section
variable {prog' : Program} {w : World} {A : Around} {E : Value → Shared → Prop} {s : Shared} {Q : Value → Shared → Prop} {c k : Nat} {t u : Tok} {y : Str} {b : Bool}
theorem ite_t {A B : Prop} (h : A) : if true = true then A else B := h
theorem ite_f {A B : Prop} (h : B) : if false = true then A else B := h
theorem in_ch (e : y.cps.toList.contains c = b) (h : Q (.bool b) s) : wpAny (model prog' w) A (compareOp .In (.str ⟨#[c]⟩ t) (.str y u)) Q E s := by
  refine P.in_str ?_
  rw [StrLaws.found_one]
  have : decide (c ∈ y.cps.toList) = y.cps.toList.contains c := by simp
  rw [this, e]; exact h
theorem notin_ch (e : y.cps.toList.contains c = b) (h : Q (.bool (!b)) s) : wpAny (model prog' w) A (compareOp .NotIn (.str ⟨#[c]⟩ t) (.str y u)) Q E s := by
  refine P.notIn_str ?_
  rw [StrLaws.found_one]
  have : decide (c ∈ y.cps.toList) = y.cps.toList.contains c := by simp
  rw [this, e]; exact h
theorem eq_ch (hy : y = ⟨#[k]⟩) (e : (c == k) = b) (h : Q (.bool b) s) : wpAny (model prog' w) A (compareOp .Eq (.str ⟨#[c]⟩ t) (.str y u)) Q E s := by
  refine P.eq_str ?_
  have : ((⟨#[c]⟩ : Str).cps.toList == y.cps.toList) = b := by
    subst hy
    rw [← e]
    simp
  rw [this]; exact h
theorem eq_nl (e : (c == 10) = b) (h : Q (.bool b) s) : wpAny (model prog' w) A (compareOp .Eq (.str ⟨#[c]⟩ t) (.str (Str.ofString "\n") u)) Q E s := eq_ch (k := 10) (by decide +kernel) e h
theorem truthy_ch {Q : Bool → Shared → Prop} (h : Q true { s with toks := s.toks + 1 + 1 }) : wpAny (model prog' w) A (truthy (.str ⟨#[c]⟩ t)) Q E s :=
  P.truthy_str (by show ¬ ((1 : Nat) : Int) ≥ 2 ^ 63; decide) (by exact h)
theorem in_lit_t {x y : Str} (e : (Builtin.Str.occurrences y x 0 y.length 1).isEmpty = false) (h : Q (.bool true) s) : wpAny (model prog' w) A (compareOp .In (.str x t) (.str y u)) Q E s :=
  P.in_str (by rw [e]; exact h)
theorem in_lit_f {x y : Str} (e : (Builtin.Str.occurrences y x 0 y.length 1).isEmpty = true) (h : Q (.bool false) s) : wpAny (model prog' w) A (compareOp .In (.str x t) (.str y u)) Q E s :=
  P.in_str (by rw [e]; exact h)
theorem add_S {l : List Nat} (hl : l.length ≤ 100000) (h : ∀ t' k, Q (.str (S (l ++ [c])) t') { s with toks := k }) : wpAny (model prog' w) A (inplaceOp .Add (.str (S l) t) (.str ⟨#[c]⟩ u)) Q E s := by
  refine PyProof.Rows.iadd_str (fun t' k => ?_) ?_
  · have e : S l ++ (⟨#[c]⟩ : Str) = S (l ++ [c]) := by
      show Str.append _ _ = _
      simp [Str.append, S]
    rw [e]; exact h t' k
  · simp only [S, Str.length, List.size_toArray, sizeLine]
    have : [c].length = 1 := rfl
    omega
theorem truthy_S {l : List Nat} {Q : Bool → Shared → Prop} (e : l.isEmpty = b) (hl : l.length ≤ 100000) (h : Q (!b) { s with toks := s.toks + 1 + 1 }) : wpAny (model prog' w) A (truthy (.str (S l) t)) Q E s := by
  refine P.truthy_str ?_ ?_
  · simp only [S, Str.length, List.size_toArray]; omega
  · subst e
    have : (((S l).length : Int) != 0) = !l.isEmpty := by
      simp only [S, Str.length, List.size_toArray]
      cases l with
      | nil => rfl
      | cons a r => simp; omega
    rw [this]; exact h
theorem eq_S {l : List Nat} (e : l.isEmpty = b) (h : Q (.bool b) s) : wpAny (model prog' w) A (compareOp .Eq (.str (S l) t) (.str (Str.ofString "") u)) Q E s := by
  refine P.eq_str ?_
  have : ((S l).cps.toList == (Str.ofString "").cps.toList) = b := by
    subst e
    rw [S_nil]
    cases l <;> simp [S]
  rw [this]; exact h
end
end Mine

end
section
namespace Mine
open PySem.Calls PyProof.Rows.LCg
theorem strs_vals : ∀ {vs : List Value} {ws : List Str}, StrsAre vs ws → ∃ l : List (Str × Tok), vs = strValues l ∧ l.map (·.1) = ws
  | _, _, .nil => ⟨[], rfl, rfl⟩
  | _, _, .cons x t h => by
    obtain ⟨l, e1, e2⟩ := strs_vals h
    exact ⟨(x, t) :: l, by rw [e1]; rfl, by rw [← e2]; rfl⟩
theorem join_cat : ∀ (cs : List Nat) (a : Array Nat), (cs.map fun c => (⟨#[c]⟩ : Str)).foldl (fun acc p => acc ++ (Str.ofString "").cps ++ p.cps) a = a ++ cs.toArray
  | [], a => by simp
  | c :: cs, a => by
    have e : (Str.ofString "").cps = #[] := rfl
    rw [List.map_cons, List.foldl_cons, join_cat cs, e]
    simp
theorem join_ones (cs : List Nat) : Txt.join (Str.ofString "") (cs.map fun c => (⟨#[c]⟩ : Str)) = S cs := by
  cases cs with
  | nil => rfl
  | cons c cs =>
    show (⟨(cs.map fun c => (⟨#[c]⟩ : Str)).foldl (fun acc p => acc ++ (Str.ofString "").cps ++ p.cps) #[c]⟩ : Str) = S (c :: cs)
    rw [join_cat]
    unfold S
    congr 1
    apply Array.toList_inj.mp
    simp
section
variable {w : World} {A : Around} {E : Value → Shared → Prop} {s : Shared} {h₀ : Heap} {L : Addr} {Q : Value → Shared → Prop}
theorem join_call {D : Addr} {ys : List Value} {cs : List Nat} {t : Tok} {news : List (Addr × Obj)} (N : News h₀ L s.heap news) (hm : (D, lst ys) ∈ news) (hs : StrsAre ys (cs.map fun c => (⟨#[c]⟩ : Str))) (hl : cs.length ≤ 1000)
    (h : ∀ t' k, Q (.str (S cs) t') { s with toks := k }) : wpAny (model prog w) A (call (.builtin "str.join") [.str (Str.ofString "") t, .ref D]) Q E s := by
  obtain ⟨l, e1, e2⟩ := strs_vals hs
  refine SC.join (l := l) (texts := cs.map fun c => (⟨#[c]⟩ : Str)) ⟨_, (N _ hm).1, rfl, _, by rw [e1]⟩ e2 ?_ ?_
  · refine joinOk_of ?_
    have h1 := StrLaws.sumLen_le (B := 1) (cs.map fun c => (⟨#[c]⟩ : Str)) (fun y hy => by
      obtain ⟨c, _, rfl⟩ := List.mem_map.mp hy
      exact Nat.le_refl 1)
    have h2 : (Str.ofString "").length = 0 := rfl
    rw [List.length_map] at h1 ⊢
    rw [h2]
    omega
  · rw [join_ones]
    exact h
end
end Mine

end
section
namespace Mine
theorem news_tl {h₀ h : Heap} {L : Addr} {a : Addr × Obj} {l : List (Addr × Obj)} (N : News h₀ L h (a :: l)) : News h₀ L h l := fun q hq => N q (.tail _ hq)
section
variable {prog' : Program} {w : World} {A : Around} {E : Value → Shared → Prop} {Q : Flow → Shared → Prop} {s : Shared} {env : Env} {h₀ : Heap} {L : Addr}
def WlAt {σ : Type} (h₀ : Heap) (L : Addr) (s : Shared) (Led : σ → List (Addr × Obj)) (ps : σ → List (Str × Value)) (stored : List Str) (m₀ : Str → Option Value) (P : σ → Prop) (s₂ : Shared) : Prop :=
  ∃ (c' : σ) (h' : Heap) (tk : Nat) (m' : Str → Option Value) (news' : List (Addr × Obj)), s₂ = { s with heap := h', toks := tk } ∧ Fr h₀ L h' m' ∧ News h₀ L h' news' ∧ (∀ p ∈ Led c', p ∈ news') ∧ (∀ p ∈ ps c', m' p.1 = some p.2) ∧ (∀ z, (∀ p ∈ ps c', z ≠ p.1) → stored.contains z = false → m' z = m₀ z) ∧ P c'
def WlPost {σ : Type} (h₀ : Heap) (L : Addr) (s : Shared) (Led : σ → List (Addr × Obj)) (ps : σ → List (Str × Value)) (stored : List Str) (m₀ : Str → Option Value) (P Bk : σ → Prop) (μ : σ → Nat) (n : Nat) (f : Flow) (s₂ : Shared) : Prop :=
  match f with
  | .ret _ => False
  | .brk => WlAt h₀ L s Led ps stored m₀ Bk s₂
  | _ => WlAt h₀ L s Led ps stored m₀ (fun c => P c ∧ μ c < n) s₂
theorem wl_at {σ : Type} {Led : σ → List (Addr × Obj)} {ps : σ → List (Str × Value)} {stored : List Str} {m₀ m' : Str → Option Value} {P : σ → Prop} {h' : Heap} {tk : Nat} {news' : List (Addr × Obj)} (c' : σ)
    (F : Fr h₀ L h' m') (N : News h₀ L h' news') (hn : ∀ p ∈ Led c', p ∈ news') (hk : ∀ p ∈ ps c', m' p.1 = some p.2) (hr : ∀ z, (∀ p ∈ ps c', z ≠ p.1) → stored.contains z = false → m' z = m₀ z) (hp : P c') :
    WlAt h₀ L s Led ps stored m₀ P { s with heap := h', toks := tk } := ⟨c', h', tk, m', news', rfl, F, N, hn, hk, hr, hp⟩
end
end Mine

end
section
namespace Mine
/-! read_token in plain words, with quotation marks, punctuation, whitespace_split -/
inductive S5 where | fin | white | word | wordq | punct | quote (q : Nat) | esc
inductive R5 where
  | ok (tok : List Nat) (st : S5) (rem : List Nat) (ln : Int) (push : Option Nat)
  | fault (tok : List Nat) (st : S5) (ln : Int)
def isQ (c : Nat) : Bool := (Str.ofString "'\"").cps.toList.contains c
def isE (c : Nat) : Bool := (Str.ofString "\\").cps.toList.contains c
def isD (c : Nat) : Bool := (Str.ofString "\"").cps.toList.contains c
def lnp (c : Nat) (ln : Int) : Int := if c == 10 then ln + 1 else ln
def rt5 (z b sp : Bool) (W U C : Nat → Bool) : List Nat → S5 → List Nat → Int → Option R5
  | [], .fin, _, ln => if z then some (.ok [] .fin [] ln none) else none
  | [], .white, tok, ln => if z then some (.ok tok .fin [] ln none) else none
  | [], .word, tok, ln => if z then some (.ok tok .fin [] ln none) else none
  | [], .punct, tok, ln => if z then some (.ok tok .fin [] ln none) else none
  | [], .quote q, tok, ln => some (.fault tok (.quote q) ln)
  | [], .esc, tok, ln => some (.fault tok .esc ln)
  | [], .wordq, _, _ => none
  | _ :: _, .fin, _, _ => none
  | _ :: _, .esc, _, _ => none
  | c :: r, .white, tok, ln =>
    if isWs c then rt5 z b sp W U C r .white tok (lnp c ln)
    else if C c then none
    else if b && isE c then none
    else if W c then rt5 z b sp W U C r .word [c] (lnp c ln)
    else if U c then rt5 z b sp W U C r .punct [c] (lnp c ln)
    else if isQ c then rt5 z b sp W U C r (.quote c) (if b then tok else [c]) (lnp c ln)
    else if sp then rt5 z b sp W U C r .word [c] (lnp c ln)
    else some (.ok [c] .white r (lnp c ln) none)
  | c :: r, .quote q, tok, ln =>
    if c == q then (if b then rt5 z b sp W U C r .wordq tok (lnp c ln) else some (.ok (tok ++ [c]) .white r (lnp c ln) none))
    else if b && isE c && isD q then rt5 z b sp W U C r .esc tok (lnp c ln)
    else rt5 z b sp W U C r (.quote q) (tok ++ [c]) (lnp c ln)
  | c :: r, .word, tok, ln =>
    if isWs c then some (.ok tok .white r (lnp c ln) none)
    else if C c then none
    else if b && isQ c then rt5 z b sp W U C r (.quote c) tok (lnp c ln)
    else if b && isE c then none
    else if W c || isQ c || (sp && !U c) then rt5 z b sp W U C r .word (tok ++ [c]) (lnp c ln)
    else some (.ok tok .white r (lnp c ln) (some c))
  | c :: r, .wordq, tok, ln =>
    if isWs c then none
    else if C c then none
    else if b && isQ c then none
    else if b && isE c then rt5 z b sp W U C r .esc tok (lnp c ln)
    else none
  | c :: r, .punct, tok, ln =>
    if isWs c then some (.ok tok .white r (lnp c ln) none)
    else if C c then none
    else if U c then rt5 z b sp W U C r .punct (tok ++ [c]) (lnp c ln)
    else some (.ok tok .white r (lnp c ln) (some c))
section
variable {z b sp : Bool} {W U C : Nat → Bool} {c q : Nat} {r tok : List Nat} {ln : Int}
theorem re_nf : rt5 z b sp W U C [] .fin tok ln = if z then some (.ok [] .fin [] ln none) else none := rfl
theorem re_nw : rt5 z b sp W U C [] .white tok ln = if z then some (.ok tok .fin [] ln none) else none := rfl
theorem re_no : rt5 z b sp W U C [] .word tok ln = if z then some (.ok tok .fin [] ln none) else none := rfl
theorem re_np : rt5 z b sp W U C [] .punct tok ln = if z then some (.ok tok .fin [] ln none) else none := rfl
theorem re_nq : rt5 z b sp W U C [] (.quote q) tok ln = some (.fault tok (.quote q) ln) := rfl
theorem re_ne : rt5 z b sp W U C [] .esc tok ln = some (.fault tok .esc ln) := rfl
theorem re_nx : rt5 z b sp W U C [] .wordq tok ln = none := rfl
theorem re_cf : rt5 z b sp W U C (c :: r) .fin tok ln = none := rfl
theorem re_ce : rt5 z b sp W U C (c :: r) .esc tok ln = none := rfl
theorem re_w : rt5 z b sp W U C (c :: r) .white tok ln =
    if isWs c then rt5 z b sp W U C r .white tok (lnp c ln)
    else if C c then none
    else if b && isE c then none
    else if W c then rt5 z b sp W U C r .word [c] (lnp c ln)
    else if U c then rt5 z b sp W U C r .punct [c] (lnp c ln)
    else if isQ c then rt5 z b sp W U C r (.quote c) (if b then tok else [c]) (lnp c ln)
    else if sp then rt5 z b sp W U C r .word [c] (lnp c ln)
    else some (.ok [c] .white r (lnp c ln) none) := rfl
theorem re_q : rt5 z b sp W U C (c :: r) (.quote q) tok ln =
    if c == q then (if b then rt5 z b sp W U C r .wordq tok (lnp c ln) else some (.ok (tok ++ [c]) .white r (lnp c ln) none))
    else if b && isE c && isD q then rt5 z b sp W U C r .esc tok (lnp c ln)
    else rt5 z b sp W U C r (.quote q) (tok ++ [c]) (lnp c ln) := rfl
theorem re_o : rt5 z b sp W U C (c :: r) .word tok ln =
    if isWs c then some (.ok tok .white r (lnp c ln) none)
    else if C c then none
    else if b && isQ c then rt5 z b sp W U C r (.quote c) tok (lnp c ln)
    else if b && isE c then none
    else if W c || isQ c || (sp && !U c) then rt5 z b sp W U C r .word (tok ++ [c]) (lnp c ln)
    else some (.ok tok .white r (lnp c ln) (some c)) := rfl
theorem re_x : rt5 z b sp W U C (c :: r) .wordq tok ln =
    if isWs c then none
    else if C c then none
    else if b && isQ c then none
    else if b && isE c then rt5 z b sp W U C r .esc tok (lnp c ln)
    else none := rfl
theorem re_p : rt5 z b sp W U C (c :: r) .punct tok ln =
    if isWs c then some (.ok tok .white r (lnp c ln) none)
    else if C c then none
    else if U c then rt5 z b sp W U C r .punct (tok ++ [c]) (lnp c ln)
    else some (.ok tok .white r (lnp c ln) (some c)) := rfl
end
def SV5 : S5 → Value → Prop
  | .fin, v => v = .none
  | .white, v => ∃ t, v = .str (Str.ofString " ") t
  | .word, v => ∃ t, v = .str (Str.ofString "a") t
  | .wordq, v => ∃ t, v = .str (Str.ofString "a") t
  | .punct, v => ∃ t, v = .str (Str.ofString "c") t
  | .quote q, v => isQ q = true ∧ ∃ t, v = .str ⟨#[q]⟩ t
  | .esc, v => ∃ t, v = .str ⟨#[92]⟩ t
/-- the lexer's dict with punctuation: pu the punctuation, pc the deque of pushed back signs -/
abbrev lexP (P : Params) (T : LxT) (k19 : Tok) (b sp : Bool) (ev : Value) (cm wc pu : Str) (pb fs io pc : Addr) (f sv : Value) (ln : Int) (tl : Tok) (tk : Str) (tt : Tok) : Obj := dictOf [
  ent P "instream" T.k0 (.ref io), ent P "infile" T.k1 f, ent P "posix" T.k2 (.bool b), ent P "eof" T.k3 ev, ent P "commenters" T.k4 (.str cm T.c4), ent P "wordchars" T.k5 (.str wc T.c5),
  ent P "whitespace" T.k6 (.str (Str.ofString " \t\x0d\n") T.c6), ent P "whitespace_split" T.k7 (.bool sp), ent P "quotes" T.k8 (.str (Str.ofString "'\"") T.c8), ent P "escape" T.k9 (.str (Str.ofString "\\") T.c9),
  ent P "escapedquotes" T.k10 (.str (Str.ofString "\"") T.c10), ent P "state" T.k11 sv, ent P "pushback" T.k12 (.ref pb), ent P "lineno" T.k13 (.int ln tl), ent P "debug" T.k14 (.int 0 T.c14),
  ent P "token" T.k15 (.str tk tt), ent P "filestack" T.k16 (.ref fs), ent P "source" T.k17 .none, ent P "_punctuation_chars" T.k18 (.str pu T.c18), ent P "_pushback_chars" k19 (.ref pc)] 20
/-- what the loop changes -/
structure LS5 where
  sv : Value
  ln : Int
  tl : Tok
  tok : Str
  tt : Tok
  pos : Nat
  tp : Tok
  pcv : List Value
  pcn : Int
  q : Bool
def PC (v : List Value) (cs : List Nat) : Prop := (v = [] ∧ cs = []) ∨ ∃ c t, v = [.str ⟨#[c]⟩ t] ∧ cs = [c]
section
variable {prog' : Program} {w : World} {A : Around} {E : Value → Shared → Prop} {Q : Flow → Shared → Prop} {s : Shared} {env : Env} {h₀ : Heap} {L : Addr}
theorem wl_whileE {σ : Type} {test : Expr} {body : List Stmt} {pos : Pos} {m₀ : Str → Option Value} (Led : σ → List (Addr × Obj)) (ps : σ → List (Str × Value)) (stored : List Str) (P Bk : σ → Prop) (μ : σ → Nat) (c₀ : σ)
    (F : Fr h₀ L s.heap m₀) (N : News h₀ L s.heap (Led c₀)) (hk : ∀ p ∈ ps c₀, m₀ p.1 = some p.2) (hp : P c₀)
    (turn : ∀ (c : σ) (u : Str → Option Value) h tk, P c → Fr h₀ L h (kstB (fun z => if stored.contains z then u z else m₀ z) (ps c)) → News h₀ L h (Led c) →
      wpAny (model prog' w) A (isTrue test env (eval test env)) (fun b s₂ =>
        if b = true then wpAny (model prog' w) A (execs body env) (WlPost h₀ L s Led ps stored m₀ P Bk μ (μ c)) E s₂ else False) E { s with heap := h, toks := tk })
    (after : ∀ (c : σ) (u : Str → Option Value) h tk, Bk c → Fr h₀ L h (kstB (fun z => if stored.contains z then u z else m₀ z) (ps c)) → News h₀ L h (Led c) → Q .next { s with heap := h, toks := tk })
    (hE : PassesOwn (model prog' w) A env E := by passes_own) :
    wpAny (model prog' w) A (exec (.While test body [] pos) env) Q E s := by
  refine wpAny_mono (Q := fun f s' => f = .next ∧ WlAt h₀ L s Led ps stored m₀ Bk s') ?_ (fun f s' hh => ?_) (fun _ _ hh => hh)
  · refine While_inv2 (fun n m nx => ∃ c : σ, nx = Led c ∧ μ c = n ∧ (∀ p ∈ ps c, m p.1 = some p.2) ∧ (∀ z, (∀ p ∈ ps c, z ≠ p.1) → stored.contains z = false → m z = m₀ z) ∧ P c) F N ⟨c₀, rfl, rfl, hk, fun _ _ _ => rfl, hp⟩ ?_ hE
    rintro n m₁ nx h tk F₁ N₁ ⟨c, hnx, hsz, h1, h2, hp'⟩
    rw [hnx] at N₁
    rw [← hsz]
    refine wpAny_mono (turn c m₁ h tk hp' (ksw_fr h1 h2 F₁) N₁) (fun b s₂ p => ?_) fun _ _ x => x
    cases b with
    | false => simp at p
    | true =>
      simp only [if_true] at p ⊢
      refine wpAny_mono p (fun f s₃ q => ?_) fun _ _ x => x
      cases f with
      | ret v => exact q.elim
      | brk => exact ⟨rfl, q⟩
      | next =>
        obtain ⟨c', h', tk', m', news', rfl, F', N', hn, hk9, hr9, hp9, hm9⟩ := q
        exact ⟨h', tk', m', Led c', μ c', rfl, F', fun p hp => N' p (hn p hp), hm9, c', rfl, rfl, hk9, hr9, hp9⟩
      | cont =>
        obtain ⟨c', h', tk', m', news', rfl, F', N', hn, hk9, hr9, hp9, hm9⟩ := q
        exact ⟨h', tk', m', Led c', μ c', rfl, F', fun p hp => N' p (hn p hp), hm9, c', rfl, rfl, hk9, hr9, hp9⟩
  · obtain ⟨rfl, c', h', tk', m', news', rfl, F', N', hn, hk9, hr9, hb⟩ := hh
    exact after c' m' h' tk' hb (ksw_fr hk9 hr9 F') fun p hp => N' p (hn p hp)
end
section
variable {prog' : Program} {w : World} {A : Around} {E : Value → Shared → Prop} {s : Shared} {Q : Value → Shared → Prop} {c k : Nat} {t u : Tok} {b : Bool}
theorem eq_sp (e : (c == 32) = b) (h : Q (.bool b) s) : wpAny (model prog' w) A (compareOp .Eq (.str ⟨#[c]⟩ t) (.str (Str.ofString " ") u)) Q E s := eq_ch (k := 32) (by decide +kernel) e h
theorem eq_cc (e : (c == k) = b) (h : Q (.bool b) s) : wpAny (model prog' w) A (compareOp .Eq (.str ⟨#[c]⟩ t) (.str ⟨#[k]⟩ u)) Q E s := eq_ch (k := k) rfl e h
/-- a test whose two roads both end false: the roads are walked only as far as the test -/
theorem test_f {test : Expr} {env : Env} {Q : Bool → Shared → Prop} (h1 : wpAny (model prog' w) A (isTrue test env (eval test env)) (fun r s' => r = false ∧ ∃ tk, s' = { s with toks := tk }) E s)
    (h2 : ∀ tk, Q false { s with toks := tk }) : wpAny (model prog' w) A (isTrue test env (eval test env)) Q E s :=
  wpAny_mono h1 (fun r s' h => by obtain ⟨rfl, tk, rfl⟩ := h; exact h2 tk) fun _ _ e => e
theorem test_t {test : Expr} {env : Env} {Q : Bool → Shared → Prop} (h1 : wpAny (model prog' w) A (isTrue test env (eval test env)) (fun r s' => r = true ∧ ∃ tk, s' = { s with toks := tk }) E s)
    (h2 : ∀ tk, Q true { s with toks := tk }) : wpAny (model prog' w) A (isTrue test env (eval test env)) Q E s :=
  wpAny_mono h1 (fun r s' h => by obtain ⟨rfl, tk, rfl⟩ := h; exact h2 tk) fun _ _ e => e
end
theorem isE_is {c : Nat} (h : isE c = true) : c = 92 := by
  have k : ∀ q ∈ (Str.ofString "\\").cps.toList, q = 92 := by decide +kernel
  exact k c (by simpa [isE] using h)
theorem isQ_ne {q : Nat} (h : isQ q = true) : (q == 32) = false ∧ (q == 10) = false ∧ isE q = false := by
  have k : ∀ q ∈ (Str.ofString "'\"").cps.toList, (q == 32) = false ∧ (q == 10) = false ∧ isE q = false := by decide +kernel
  exact k q (by simpa [isQ] using h)
theorem ne5 {a b c d e : Addr} (h1 : @LT.lt Nat _ a b) (h2 : @LT.lt Nat _ b c) (h3 : @LT.lt Nat _ c d) (h4 : @LT.lt Nat _ d e) :
    @Ne Nat a b ∧ @Ne Nat a c ∧ @Ne Nat a d ∧ @Ne Nat a e ∧ @Ne Nat b c ∧ @Ne Nat b d ∧ @Ne Nat b e ∧ @Ne Nat c d ∧ @Ne Nat c e ∧ @Ne Nat d e := by
  have a2 := Nat.lt_trans h1 h2
  have a3 := Nat.lt_trans a2 h3
  have a4 := Nat.lt_trans a3 h4
  have b3 := Nat.lt_trans h2 h3
  have b4 := Nat.lt_trans b3 h4
  have c4 := Nat.lt_trans h3 h4
  refine ⟨?_, ?_, ?_, ?_, ?_, ?_, ?_, ?_, ?_, ?_⟩ <;> (apply Nat.ne_of_lt; assumption)
end Mine
namespace Mine
section
variable {w : World} {A : Around} {E : Value → Shared → Prop} {Q : Flow → Shared → Prop} {s : Shared} {env : Env} {h₀ h : Heap} {L : Addr} {m : Str → Option Value} {tk : Nat}
def Nx5 (h₀ : Heap) (L : Addr) (s : Shared) (m : Str → Option Value) (Led : Nat → Tok → Int → List (Addr × Obj)) (x y : Str) (r : List Nat) (n : Nat) (s₂ : Shared) : Prop :=
  ∃ h' tk t pos' tp' pcn', s₂ = { s with heap := h', toks := tk } ∧ Fr h₀ L h' (fun z => if z = Str.ofString "nextchar" then some (.str y t) else m z) ∧ News h₀ L h' (Led pos' tp' pcn') ∧ x.cps.toList.drop pos' = r ∧ x.length - pos' < n
def Ln5 (h₀ : Heap) (L : Addr) (s : Shared) (m : Str → Option Value) (Led : Int → Tok → List (Addr × Obj)) (ln : Int) (s₂ : Shared) : Prop :=
  ∃ h' tk tl', s₂ = { s with heap := h', toks := tk } ∧ Fr h₀ L h' m ∧ News h₀ L h' (Led ln tl')
theorem nx5_mid {st : Stmt} {rest : List Stmt} (_ : Fr h₀ L h m) (Led : Nat → Tok → Int → List (Addr × Obj)) (x y : Str) (r : List Nat) (n : Nat)
    (h1 : wpAny (model prog w) A (exec st env) (fun f s' => match f with | .next => Nx5 h₀ L s m Led x y r n s' | f => Q f s') E { s with heap := h, toks := tk })
    (h2 : ∀ h' tk t pos' tp' pcn', Fr h₀ L h' (fun z => if z = Str.ofString "nextchar" then some (.str y t) else m z) → News h₀ L h' (Led pos' tp' pcn') → x.cps.toList.drop pos' = r → x.length - pos' < n → wpAny (model prog w) A (execs rest env) Q E { s with heap := h', toks := tk }) :
    wpAny (model prog w) A (execs (st :: rest) env) Q E { s with heap := h, toks := tk } :=
  execs_mid (Nx5 h₀ L s m Led x y r n) h1 (by
    rintro s' ⟨h', tk, t, pos', tp', pcn', rfl, a, b, c, d⟩
    exact h2 h' tk t pos' tp' pcn' a b c d)
theorem ln5_mid {st : Stmt} {rest : List Stmt} (_ : Fr h₀ L h m) (Led : Int → Tok → List (Addr × Obj)) (ln : Int)
    (h1 : wpAny (model prog w) A (exec st env) (fun f s' => match f with | .next => Ln5 h₀ L s m Led ln s' | f => Q f s') E { s with heap := h, toks := tk })
    (h2 : ∀ h' tk tl' ln2, ln2 = ln → Fr h₀ L h' m → News h₀ L h' (Led ln2 tl') → wpAny (model prog w) A (execs rest env) Q E { s with heap := h', toks := tk }) :
    wpAny (model prog w) A (execs (st :: rest) env) Q E { s with heap := h, toks := tk } :=
  execs_mid (Ln5 h₀ L s m Led ln) h1 (by
    rintro s' ⟨h', tk, tl', rfl, a, b⟩
    exact h2 h' tk tl' _ rfl a b)
end
end Mine
namespace Mine
theorem truthy_ne {prog' : Program} {w : World} {A : Around} {E : Value → Shared → Prop} {s : Shared} {y : Str} {t : Tok} {Q : Bool → Shared → Prop} (e : y.cps.toList.isEmpty = false) (hl : y.length ≤ 100000) (h : Q true { s with toks := s.toks + 1 + 1 }) : wpAny (model prog' w) A (truthy (.str y t)) Q E s := by
  refine P.truthy_str ?_ ?_
  · omega
  · have : ((y.length : Int) != 0) = true := by
      have : y.length ≠ 0 := by
        intro e'
        simp only [Str.length] at e'
        have : y.cps.toList = [] := by
          apply List.eq_nil_of_length_eq_zero
          simpa using e'
        rw [this] at e
        cases e
      simp; omega
    rw [this]; exact h
end Mine
namespace Mine
section
variable {prog' : Program} {w : World} {A : Around} {E : Value → Shared → Prop} {s : Shared} {h₀ : Heap} {L : Addr} {m : Str → Option Value} {news news' : List (Addr × Obj)} {q : Addr} {n : Int} {x : Value} {Q : Value → Shared → Prop}
theorem dq_pop1 (F : Fr h₀ L s.heap m) (N : News h₀ L s.heap news) (U : Upd q (dqO [x] n) (dqO [] (n + 1)) news news')
    (h : ∀ h', Fr h₀ L h' m → News h₀ L h' news' → Q x { s with heap := h' }) : wpAny (model prog' w) A (call (.builtin "collections.deque.pop") [.ref q]) Q E s :=
  dq_pop (vs := []) F N U (Nat.zero_le _) h
theorem dq_appendleft1 (F : Fr h₀ L s.heap m) (N : News h₀ L s.heap news) (U : Upd q (dqO [] n) (dqO [x] (n + 1)) news news')
    (h : ∀ h', Fr h₀ L h' m → News h₀ L h' news' → Q .none { s with heap := h' }) : wpAny (model prog' w) A (call (.builtin "collections.deque.appendleft") [.ref q, x]) Q E s :=
  dq_appendleft (vs := []) F N U (Nat.zero_le _) h
theorem dq_append1 (F : Fr h₀ L s.heap m) (N : News h₀ L s.heap news) (U : Upd q (dqO [] n) (dqO [x] (n + 1)) news news')
    (h : ∀ h', Fr h₀ L h' m → News h₀ L h' news' → Q .none { s with heap := h' }) : wpAny (model prog' w) A (call (.builtin "collections.deque.append") [.ref q, x]) Q E s :=
  dq_append (vs := []) F N U (Nat.zero_le _) h
end
end Mine
namespace Mine
def TN5 (h₀ : Heap) (L : Addr) (s : Shared) (m : Str → Option Value) (news : List (Addr × Obj)) (r0 r : Bool) (s' : Shared) : Prop := r = r0 ∧ ∃ h' tk, s' = { s with heap := h', toks := tk } ∧ Fr h₀ L h' m ∧ News h₀ L h' news
theorem testN {w : World} {A : Around} {E : Value → Shared → Prop} {s : Shared} {h₀ h : Heap} {L : Addr} {m : Str → Option Value} {news : List (Addr × Obj)} {tk : Nat} {test : Expr} {env : Env} {Q : Bool → Shared → Prop} {r0 : Bool} (_ : Fr h₀ L h m) (_ : News h₀ L h news)
    (h1 : wpAny (model prog w) A (isTrue test env (eval test env)) (TN5 h₀ L s m news r0) E { s with heap := h, toks := tk })
    (h2 : ∀ h' tk, Fr h₀ L h' m → News h₀ L h' news → Q r0 { s with heap := h', toks := tk }) : wpAny (model prog w) A (isTrue test env (eval test env)) Q E { s with heap := h, toks := tk } :=
  wpAny_mono h1 (fun r s' h => by obtain ⟨rfl, h', tk, rfl, a, b⟩ := h; exact h2 h' tk a b) fun _ _ e => e
end Mine

end
section
namespace Mine
theorem allLt_ne {d : Addr} : ∀ {l : List (Addr × Obj)}, AllLt d l → ∀ p ∈ l, p.1 ≠ d
  | [], _, _, hp => nomatch hp
  | _ :: _, h, _, .head _ => Nat.ne_of_lt h.1
  | _ :: _, h, _, .tail _ hp => allLt_ne h.2 _ hp
section
variable {w : World} {A₀ : Around} {base h₀ : Heap} {outer : List Env} {L : Addr} {m mg mb : Str → Option Value} {loose : List Str} {mean : ExcName → Option Value} {s : Shared} {Q E : Value → Shared → Prop} {p : Program}
  {hdl : Option Value} {d u : Nat} {gs : Option (List Code)} {rest : List (Addr × Obj)} {ns : List (Str × NameKind)} {ig ic : Bool} {mo : List (Str × Const)} {gl bi : Addr} {cs : List (Str × Addr)} {qn : Str} {fo : Option Addr} {cdv : Value}
def WC (b : Bool) : Str := if b then Str.ofString "abcdfeghijklmnopqrstuvwxyzABCDEFGHIJKLMNOPQRSTUVWXYZ0123456789_ßàáâãäåæçèéêëìíîïðñòóôõöøùúûüýþÿÀÁÂÃÄÅÆÇÈÉÊËÌÍÎÏÐÑÒÓÔÕÖØÙÚÛÜÝÞ" else Str.ofString "abcdfeghijklmnopqrstuvwxyzABCDEFGHIJKLMNOPQRSTUVWXYZ0123456789_"
def EV (b : Bool) (v : Value) : Prop := if b then v = .none else ∃ t, v = .str (Str.ofString "") t
end
end Mine

end
section
namespace Mine
/-! the lexer's dict with and without its last entry -/
def app5 (a b : List DictEntry) : List DictEntry := a ++ b
def esG (P : Params) (T : LxT) (b sp : Bool) (ev : Value) (cm wc pu : Str) (pb fs io : Addr) (f sv : Value) (ln : Int) (tl : Tok) (tk : Str) (tt : Tok) : List DictEntry := [
  ent P "instream" T.k0 (.ref io), ent P "infile" T.k1 f, ent P "posix" T.k2 (.bool b), ent P "eof" T.k3 ev, ent P "commenters" T.k4 (.str cm T.c4), ent P "wordchars" T.k5 (.str wc T.c5),
  ent P "whitespace" T.k6 (.str (Str.ofString " \t\x0d\n") T.c6), ent P "whitespace_split" T.k7 (.bool sp), ent P "quotes" T.k8 (.str (Str.ofString "'\"") T.c8), ent P "escape" T.k9 (.str (Str.ofString "\\") T.c9),
  ent P "escapedquotes" T.k10 (.str (Str.ofString "\"") T.c10), ent P "state" T.k11 sv, ent P "pushback" T.k12 (.ref pb), ent P "lineno" T.k13 (.int ln tl), ent P "debug" T.k14 (.int 0 T.c14),
  ent P "token" T.k15 (.str tk tt), ent P "filestack" T.k16 (.ref fs), ent P "source" T.k17 .none, ent P "_punctuation_chars" T.k18 (.str pu T.c18)]
/-- ex: what stands behind the written entries -/
abbrev lexG (P : Params) (T : LxT) (b sp : Bool) (ev : Value) (cm wc pu : Str) (pb fs io : Addr) (f sv : Value) (ln : Int) (tl : Tok) (tk : Str) (tt : Tok) (ex : List DictEntry) : Obj := dictOf (app5 (esG P T b sp ev cm wc pu pb fs io f sv ln tl tk tt) ex) (19 + ex.length)
def GX (P : Params) (pu : Str) (pb pc : Addr) (ex : List DictEntry) : Prop :=
  (pu = Str.ofString "" ∧ pb = pc ∧ ex = []) ∨ (pu.cps.toList.isEmpty = false ∧ pu.length ≤ 100000 ∧ ∃ k19, ex = [ent P "_pushback_chars" k19 (.ref pc)])
theorem GX.len {P : Params} {pu : Str} {pb pc : Addr} {ex : List DictEntry} (h : GX P pu pb pc ex) : ex.length ≤ 1 := by
  rcases h with ⟨_, _, rfl⟩ | ⟨_, _, _, rfl⟩ <;> simp
/-! read_token in plain words, a sign at a time -/
section
variable {z b sp : Bool} {W U C : Nat → Bool} {c q : Nat} {r tok : List Nat} {ln ln2 : Int} {R : R5}
theorem iff_t {α : Type} {c : Bool} {x y : α} (h : c = true) : (if c then x else y) = x := if_pos h
theorem iff_f {α : Type} {c : Bool} {x y : α} (h : c = false) : (if c then x else y) = y := by rw [h]; rfl
theorem w_ws (H : rt5 z b sp W U C (c :: r) .white tok ln = some R) (e : ln2 = lnp c ln) (h1 : isWs c = true) : rt5 z b sp W U C r .white tok ln2 = some R := by
  rw [re_w, iff_t h1] at H; rw [e]; exact H
theorem w_cm (H : rt5 z b sp W U C (c :: r) .white tok ln = some R) (h1 : isWs c = false) : C c = false := by
  rw [re_w, iff_f h1] at H
  cases h : C c with
  | false => rfl
  | true => rw [iff_t h] at H; cases H
theorem w_be (H : rt5 z b sp W U C (c :: r) .white tok ln = some R) (h1 : isWs c = false) : (b && isE c) = false := by
  have h2 := w_cm H h1
  rw [re_w, iff_f h1, iff_f h2] at H
  cases h : (b && isE c) with
  | false => rfl
  | true => rw [iff_t h] at H; cases H
theorem w_go (H : rt5 z b sp W U C (c :: r) .white tok ln = some R) (e : ln2 = lnp c ln) (h1 : isWs c = false) : (if W c then rt5 z b sp W U C r .word [c] ln2
    else if U c then rt5 z b sp W U C r .punct [c] ln2
    else if isQ c then rt5 z b sp W U C r (.quote c) (if b then tok else [c]) ln2
    else if sp then rt5 z b sp W U C r .word [c] ln2
    else some (.ok [c] .white r ln2 none)) = some R := by
  have h2 := w_cm H h1
  have h3 := w_be H h1
  rw [re_w, iff_f h1, iff_f h2, iff_f h3] at H; rw [e]; exact H
theorem w_W (H : rt5 z b sp W U C (c :: r) .white tok ln = some R) (e : ln2 = lnp c ln) (h1 : isWs c = false) (h2 : W c = true) : rt5 z b sp W U C r .word [c] ln2 = some R := by
  have := w_go H e h1; rw [iff_t h2] at this; exact this
theorem w_U (H : rt5 z b sp W U C (c :: r) .white tok ln = some R) (e : ln2 = lnp c ln) (h1 : isWs c = false) (h2 : W c = false) (h3 : U c = true) : rt5 z b sp W U C r .punct [c] ln2 = some R := by
  have := w_go H e h1; rw [iff_f h2, iff_t h3] at this; exact this
theorem w_Q (H : rt5 z b sp W U C (c :: r) .white tok ln = some R) (e : ln2 = lnp c ln) (h1 : isWs c = false) (h2 : W c = false) (h3 : U c = false) (h4 : isQ c = true) : rt5 z b sp W U C r (.quote c) (if b then tok else [c]) ln2 = some R := by
  have := w_go H e h1; rw [iff_f h2, iff_f h3, iff_t h4] at this; exact this
theorem w_S (H : rt5 z b true W U C (c :: r) .white tok ln = some R) (e : ln2 = lnp c ln) (h1 : isWs c = false) (h2 : W c = false) (h3 : U c = false) (h4 : isQ c = false) : rt5 z b true W U C r .word [c] ln2 = some R := by
  have := w_go H e h1; rw [iff_f h2, iff_f h3, iff_f h4] at this; exact this
theorem w_O (H : rt5 z b false W U C (c :: r) .white tok ln = some R) (e : ln2 = lnp c ln) (h1 : isWs c = false) (h2 : W c = false) (h3 : U c = false) (h4 : isQ c = false) : some (.ok [c] .white r ln2 none) = some R := by
  have := w_go H e h1; rw [iff_f h2, iff_f h3, iff_f h4] at this; exact this
theorem q_e (H : rt5 z b sp W U C (c :: r) (.quote q) tok ln = some R) (e : ln2 = lnp c ln) (h1 : (c == q) = true) : (if b then rt5 z b sp W U C r .wordq tok ln2 else some (.ok (tok ++ [c]) .white r ln2 none)) = some R := by
  rw [re_q, iff_t h1] at H; rw [e]; exact H
theorem q_t (H : rt5 z true sp W U C (c :: r) (.quote q) tok ln = some R) (e : ln2 = lnp c ln) (h1 : (c == q) = true) : rt5 z true sp W U C r .wordq tok ln2 = some R := q_e H e h1
theorem q_f (H : rt5 z false sp W U C (c :: r) (.quote q) tok ln = some R) (e : ln2 = lnp c ln) (h1 : (c == q) = true) : some (.ok (tok ++ [c]) .white r ln2 none) = some R := q_e H e h1
theorem q_b (H : rt5 z b sp W U C (c :: r) (.quote q) tok ln = some R) (e : ln2 = lnp c ln) (h1 : (c == q) = false) (h2 : (b && isE c && isD q) = true) : rt5 z b sp W U C r .esc tok ln2 = some R := by
  rw [re_q, iff_f h1, iff_t h2] at H; rw [e]; exact H
theorem q_c (H : rt5 z b sp W U C (c :: r) (.quote q) tok ln = some R) (e : ln2 = lnp c ln) (h1 : (c == q) = false) (h2 : (b && isE c && isD q) = false) : rt5 z b sp W U C r (.quote q) (tok ++ [c]) ln2 = some R := by
  rw [re_q, iff_f h1, iff_f h2] at H; rw [e]; exact H
theorem o_ws (H : rt5 z b sp W U C (c :: r) .word tok ln = some R) (e : ln2 = lnp c ln) (h1 : isWs c = true) : some (.ok tok .white r ln2 none) = some R := by
  rw [re_o, iff_t h1] at H; rw [e]; exact H
theorem o_cm (H : rt5 z b sp W U C (c :: r) .word tok ln = some R) (h1 : isWs c = false) : C c = false := by
  rw [re_o, iff_f h1] at H
  cases h : C c with
  | false => rfl
  | true => rw [iff_t h] at H; cases H
theorem o_Q (H : rt5 z b sp W U C (c :: r) .word tok ln = some R) (e : ln2 = lnp c ln) (h1 : isWs c = false) (h2 : (b && isQ c) = true) : rt5 z b sp W U C r (.quote c) tok ln2 = some R := by
  have h3 := o_cm H h1
  rw [re_o, iff_f h1, iff_f h3, iff_t h2] at H; rw [e]; exact H
theorem o_be (H : rt5 z b sp W U C (c :: r) .word tok ln = some R) (h1 : isWs c = false) (h2 : (b && isQ c) = false) : (b && isE c) = false := by
  have h3 := o_cm H h1
  rw [re_o, iff_f h1, iff_f h3, iff_f h2] at H
  cases h : (b && isE c) with
  | false => rfl
  | true => rw [iff_t h] at H; cases H
theorem o_go (H : rt5 z b sp W U C (c :: r) .word tok ln = some R) (e : ln2 = lnp c ln) (h1 : isWs c = false) (h2 : (b && isQ c) = false) : (if W c || isQ c || (sp && !U c) then rt5 z b sp W U C r .word (tok ++ [c]) ln2 else some (.ok tok .white r ln2 (some c))) = some R := by
  have h3 := o_cm H h1
  have h4 := o_be H h1 h2
  rw [re_o, iff_f h1, iff_f h3, iff_f h2, iff_f h4] at H; rw [e]; exact H
theorem o_W (H : rt5 z b sp W U C (c :: r) .word tok ln = some R) (e : ln2 = lnp c ln) (h1 : isWs c = false) (h2 : (b && isQ c) = false) (h3 : (W c || isQ c || (sp && !U c)) = true) : rt5 z b sp W U C r .word (tok ++ [c]) ln2 = some R := by
  have := o_go H e h1 h2; rw [iff_t h3] at this; exact this
theorem o_O (H : rt5 z b sp W U C (c :: r) .word tok ln = some R) (e : ln2 = lnp c ln) (h1 : isWs c = false) (h2 : (b && isQ c) = false) (h3 : (W c || isQ c || (sp && !U c)) = false) : some (.ok tok .white r ln2 (some c)) = some R := by
  have := o_go H e h1 h2; rw [iff_f h3] at this; exact this
theorem p_ws (H : rt5 z b sp W U C (c :: r) .punct tok ln = some R) (e : ln2 = lnp c ln) (h1 : isWs c = true) : some (.ok tok .white r ln2 none) = some R := by
  rw [re_p, iff_t h1] at H; rw [e]; exact H
theorem p_cm (H : rt5 z b sp W U C (c :: r) .punct tok ln = some R) (h1 : isWs c = false) : C c = false := by
  rw [re_p, iff_f h1] at H
  cases h : C c with
  | false => rfl
  | true => rw [iff_t h] at H; cases H
theorem p_U (H : rt5 z b sp W U C (c :: r) .punct tok ln = some R) (e : ln2 = lnp c ln) (h1 : isWs c = false) (h2 : U c = true) : rt5 z b sp W U C r .punct (tok ++ [c]) ln2 = some R := by
  have h3 := p_cm H h1
  rw [re_p, iff_f h1, iff_f h3, iff_t h2] at H; rw [e]; exact H
theorem p_O (H : rt5 z b sp W U C (c :: r) .punct tok ln = some R) (e : ln2 = lnp c ln) (h1 : isWs c = false) (h2 : U c = false) : some (.ok tok .white r ln2 (some c)) = some R := by
  have h3 := p_cm H h1
  rw [re_p, iff_f h1, iff_f h3, iff_f h2] at H; rw [e]; exact H
end
theorem le1 {l r : List Nat} {c pos : Nat} {x : Str} (hd : x.cps.toList.drop pos = r) (h : l.length + (c :: r).length ≤ 100000) : l.length + (([] : List Nat) ++ x.cps.toList.drop pos).length ≤ 100000 := by
  rw [hd]; simp only [List.nil_append, List.length_cons] at h ⊢; omega
theorem le2 {l r : List Nat} {c pos : Nat} {x : Str} (hd : x.cps.toList.drop pos = r) (h : l.length + (c :: r).length ≤ 100000) : (l ++ [c]).length + (([] : List Nat) ++ x.cps.toList.drop pos).length ≤ 100000 := by
  rw [hd]; simp only [List.nil_append, List.length_cons, List.length_append, List.length_nil] at h ⊢; omega
theorem le3 {r : List Nat} {c pos : Nat} {x : Str} (hd : x.cps.toList.drop pos = r) (h : ([] : List Nat).length + (c :: r).length ≤ 100000) : [c].length + (([] : List Nat) ++ x.cps.toList.drop pos).length ≤ 100000 := by
  rw [hd]; simp only [List.nil_append, List.length_cons, List.length_nil] at h ⊢; omega
theorem le4 {l r : List Nat} {c : Nat} (h : l.length + (c :: r).length ≤ 100000) : l.length ≤ 100000 := by omega
theorem le5 {l r : List Nat} {c : Nat} (h : l.length + (c :: r).length ≤ 100000) : (l ++ [c]).length ≤ 100000 := by
  simp only [List.length_cons, List.length_append, List.length_nil] at h ⊢; omega
theorem le7 {l : List Nat} (h : l.length + ([] : List Nat).length ≤ 100000) : l.length ≤ 100000 := h
theorem le6 {c : Nat} : [c].length ≤ 100000 := by simp
theorem mu0 {a b : Nat} : a - b < a - b + 1 := Nat.lt_succ_self _
theorem mu1 {a b : Nat} (h : b + 1 ≤ a) : a - (b + 1) < a - b + ([] : List Value).length := by simp only [List.length_nil]; omega
theorem mu2 {a b : Nat} {v : Value} : a - b < a - b + [v].length := Nat.lt_succ_self _
/-- the loop's frame: quoted told, nextchar and escapedstate forgotten -/
abbrev FrB (u m0 : Str → Option Value) (q : Bool) : Str → Option Value := kstB (fun z => if [Str.ofString "nextchar", Str.ofString "escapedstate"].contains z then u z else m0 z) [(Str.ofString "quoted", .bool q)]
def FrOk (m' m0 : Str → Option Value) (q : Bool) : Prop := m' (Str.ofString "quoted") = some (.bool q) ∧ ∀ z, z ≠ Str.ofString "quoted" → [Str.ofString "nextchar", Str.ofString "escapedstate"].contains z = false → m' z = m0 z
theorem fo_off {z : Str} (h3 : [Str.ofString "nextchar", Str.ofString "escapedstate"].contains z = false) : ¬ z = Str.ofString "nextchar" ∧ ¬ z = Str.ofString "escapedstate" :=
  ⟨fun e => by subst e; simp at h3, fun e => by subst e; simp at h3⟩
theorem qn_1 : ¬ Str.ofString "quoted" = Str.ofString "nextchar" := by decide +kernel
theorem qn_2 : ¬ Str.ofString "quoted" = Str.ofString "escapedstate" := by decide +kernel
theorem fo_0 {u m0 : Str → Option Value} {q : Bool} : FrOk (FrB u m0 q) m0 q := by
  refine ⟨by simp only [FrB, kstB, if_true], fun z h2 h3 => ?_⟩
  simp only [FrB, kstB, if_neg h2, h3, Bool.false_eq_true, if_false]
theorem fo_n {m' m0 : Str → Option Value} {q : Bool} {v : Option Value} (h : FrOk m' m0 q) : FrOk (fun z => if z = Str.ofString "nextchar" then v else m' z) m0 q :=
  ⟨(if_neg qn_1).trans h.1, fun z h2 h3 => (if_neg (fo_off h3).1).trans (h.2 z h2 h3)⟩
theorem fo_e {m' m0 : Str → Option Value} {q : Bool} {v : Option Value} (h : FrOk m' m0 q) : FrOk (fun z => if z = Str.ofString "escapedstate" then v else m' z) m0 q :=
  ⟨(if_neg qn_2).trans h.1, fun z h2 h3 => (if_neg (fo_off h3).2).trans (h.2 z h2 h3)⟩
theorem fo_q {m' m0 : Str → Option Value} {q q2 : Bool} (h : FrOk m' m0 q) : FrOk (fun z => if z = Str.ofString "quoted" then some (.bool q2) else m' z) m0 q2 :=
  ⟨if_pos rfl, fun z h2 h3 => (if_neg h2).trans (h.2 z h2 h3)⟩
section
variable {h₀ h : Heap} {L : Addr} {s : Shared} {m0 : Str → Option Value} {P Bk : LS5 → Prop} {μ : LS5 → Nat} {n : Nat} {Qv : Flow → Shared → Prop} {Led : LS5 → List (Addr × Obj)}
theorem lf_1 (c : LS5) {m' : Str → Option Value} {tk : Nat} (hQ : ∀ f s', WlPost h₀ L s Led (fun c => [(Str.ofString "quoted", .bool c.q)]) [Str.ofString "nextchar", Str.ofString "escapedstate"] m0 P Bk μ n f s' → Qv f s')
    (F : Fr h₀ L h m') (N : News h₀ L h (Led c)) (ho : FrOk m' m0 c.q) (hp : P c) (hm : μ c < n) : Qv .next { s with heap := h, toks := tk } ∧ Qv .cont { s with heap := h, toks := tk } := by
  have : WlAt h₀ L s Led (fun c => [(Str.ofString "quoted", .bool c.q)]) [Str.ofString "nextchar", Str.ofString "escapedstate"] m0 (fun c => P c ∧ μ c < n) { s with heap := h, toks := tk } :=
    wl_at c F N (fun p hp => hp) (fun p hp => by rw [List.mem_singleton.mp hp]; exact ho.1) (fun z h2 h3 => ho.2 z (h2 _ (.head _)) h3) ⟨hp, hm⟩
  exact ⟨hQ _ _ this, hQ _ _ this⟩
theorem lf_2 (c : LS5) {m' : Str → Option Value} {tk : Nat} (hQ : ∀ f s', WlPost h₀ L s Led (fun c => [(Str.ofString "quoted", .bool c.q)]) [Str.ofString "nextchar", Str.ofString "escapedstate"] m0 P Bk μ n f s' → Qv f s')
    (F : Fr h₀ L h m') (N : News h₀ L h (Led c)) (ho : FrOk m' m0 c.q) (hp : Bk c) : Qv .brk { s with heap := h, toks := tk } :=
  hQ .brk _ (wl_at c F N (fun p hp => hp) (fun p hp => by rw [List.mem_singleton.mp hp]; exact ho.1) (fun z h2 h3 => ho.2 z (h2 _ (.head _)) h3) hp)
end
theorem emp_S : (Str.ofString "").cps.toList.isEmpty = true := by decide +kernel
theorem contains_ne {l : List Nat} {c : Nat} (h : l.contains c = true) : l.isEmpty = false := by
  cases l with
  | nil => cases h
  | cons _ _ => rfl
theorem getL_app {name : Str} {es ex : List DictEntry} {v : Value} (h : getL name es = some (some v)) : getL name (app5 es ex) = some (some v) := by
  unfold getL app5 at *
  rw [List.find?_append]
  cases e : es.find? (·.key.isStr name) with
  | some a => rw [e] at h; exact h
  | none =>
    rw [e] at h
    dsimp only at h
    split at h <;> cases h
theorem any_found {name : Str} {es : List DictEntry} {v : Value} (h : getL name es = some (some v)) : es.any (·.key.isStr name) = true := by
  unfold getL at h
  cases e : es.find? (·.key.isStr name) with
  | some a =>
    have := List.find?_some e
    exact List.any_eq_true.mpr ⟨a, List.mem_of_find?_eq_some e, this⟩
  | none =>
    rw [e] at h
    dsimp only at h
    split at h <;> cases h
theorem putL_app {name : Str} {hs : Int} {k v : Value} {ex : List DictEntry} : ∀ {es : List DictEntry}, es.any (·.key.isStr name) = true → putL name hs k v (app5 es ex) = app5 (putL name hs k v es) ex
  | [], h => by cases h
  | e :: r, h => by
    show (if e.key.isStr name then _ else _) = app5 (if e.key.isStr name then _ else _) ex
    cases he : e.key.isStr name with
    | true => simp [app5]
    | false =>
      have h2 : r.any (·.key.isStr name) = true := by simpa [he] using h
      simp only [Bool.false_eq_true, if_false]
      show e :: putL name hs k v (app5 r ex) = _
      rw [putL_app h2]
      rfl
section
variable {w : World} {A : Around} {E : Value → Shared → Prop} {s : Shared} {K : Frag} {x C dx L : Addr} {h₀ : Heap} {m : Str → Option Value} {news news' : List (Addr × Obj)} {ox : Obj} {es es' ex : List DictEntry} {name : Str} {v v0 : Value}
theorem get_own5 {expr : Bool} {Q : Value → Shared → Prop} {attr : Option Value} (F : Fr h₀ L s.heap m) (X₀ : K.In h₀) (I : InstAt s.heap x ox C (some (dictOf (app5 es ex) (19 + ex.length)))) (hg : plainGet K C name = true) (hh : hasDictIn K C = true)
    (ha : findIn K (.ref C) name = some attr) (hn : noGet K attr = true) (hl : getL name es = some (some v)) (hv : handedIn v = true) (h : Q v { s with toks := s.toks + 1 }) :
    wpAny (model prog w) A (getAttr (.ref x) name expr) Q E s := get_own F X₀ I hg hh ha hn (getL_app hl) hv h
theorem set_dict5 {Q : Unit → Shared → Prop} (F : Fr h₀ L s.heap m) (X₀ : K.In h₀) (N : News h₀ L s.heap news) (I : InstAt s.heap x ox C (some (dictOf (app5 es ex) (19 + ex.length)))) (hd : ox.dict = some dx)
    (hs : findIn K (.ref C) "__setattr__" = some (some (.builtin "object.__setattr__"))) (hp : plainOver K C = true) (ht : takerIn K C name = some none) (hh : hasDictIn K C = true) (hl : getL name es = some (some v0))
    (e : (putL name (PyData.keyHash w.params name) (.str name (s.toks + 1)) v es, putN name es 19) = (es', 19)) (U : Upd dx (dictOf (app5 es ex) (19 + ex.length)) (dictOf (app5 es' ex) (19 + ex.length)) news news') (hz : es'.length ≤ 900) (hex : ex.length ≤ 1)
    (h : ∀ h' k, Fr h₀ L h' m → News h₀ L h' news' → Q () { s with heap := h', toks := k }) :
    wpAny (model prog w) A (setAttr (.ref x) name v) Q E s := by
  have ha := any_found hl
  obtain ⟨e1, _⟩ := Prod.mk.inj e
  refine set_dict (es' := app5 es' ex) (n' := 19 + ex.length) F X₀ N I hd hs hp ht hh (by rw [getL_app hl]; rfl) ?_ U ?_ (fun h' => h h' _)
  · rw [putL_app ha, e1]
    have : putN name (app5 es ex) (19 + ex.length) = 19 + ex.length := by
      unfold putN app5
      rw [List.any_append, ha]; rfl
    rw [this]
  · show (es' ++ ex).length ≤ 1000
    rw [List.length_append]; omega
end
theorem put_sv {P : Params} {T : LxT} {b sp : Bool} {ev : Value} {cm wc pu : Str} {pb fs io : Addr} {f sv : Value} {ln : Int} {tl : Tok} {tk : Str} {tt : Tok} {h : Int} {key : Value} {v : Value} : (putL (Str.ofString "state") h key v (esG P T b sp ev cm wc pu pb fs io f sv ln tl tk tt), putN (Str.ofString "state") (esG P T b sp ev cm wc pu pb fs io f sv ln tl tk tt) 19) = (esG P T b sp ev cm wc pu pb fs io f v ln tl tk tt, 19) := by k_put
theorem put_tk {P : Params} {T : LxT} {b sp : Bool} {ev : Value} {cm wc pu : Str} {pb fs io : Addr} {f sv : Value} {ln : Int} {tl : Tok} {tk : Str} {tt : Tok} {h : Int} {key : Value} {y : Str} {u : Tok} : (putL (Str.ofString "token") h key (.str y u) (esG P T b sp ev cm wc pu pb fs io f sv ln tl tk tt), putN (Str.ofString "token") (esG P T b sp ev cm wc pu pb fs io f sv ln tl tk tt) 19) = (esG P T b sp ev cm wc pu pb fs io f sv ln tl y u, 19) := by k_put
theorem put_ln {P : Params} {T : LxT} {b sp : Bool} {ev : Value} {cm wc pu : Str} {pb fs io : Addr} {f sv : Value} {ln : Int} {tl : Tok} {tk : Str} {tt : Tok} {h : Int} {key : Value} {n2 : Int} {u : Tok} : (putL (Str.ofString "lineno") h key (.int n2 u) (esG P T b sp ev cm wc pu pb fs io f sv ln tl tk tt), putN (Str.ofString "lineno") (esG P T b sp ev cm wc pu pb fs io f sv ln tl tk tt) 19) = (esG P T b sp ev cm wc pu pb fs io f sv n2 u tk tt, 19) := by k_put
theorem lexG_D {P : Params} {T : LxT} {b sp : Bool} {ev : Value} {cm wc : Str} {pb fs io : Addr} {f sv : Value} {ln : Int} {tl : Tok} {tk : Str} {tt : Tok} : lexG P T b sp ev cm wc (Str.ofString "") pb fs io f sv ln tl tk tt [] = lexD P T b sp ev cm wc pb fs io f sv ln tl tk tt := rfl
theorem lexG_P {P : Params} {T : LxT} {k19 : Tok} {b sp : Bool} {ev : Value} {cm wc pu : Str} {pb fs io pc : Addr} {f sv : Value} {ln : Int} {tl : Tok} {tk : Str} {tt : Tok} : lexG P T b sp ev cm wc pu pb fs io f sv ln tl tk tt [ent P "_pushback_chars" k19 (.ref pc)] = lexP P T k19 b sp ev cm wc pu pb fs io pc f sv ln tl tk tt := rfl
end Mine

end
section
local macro_rules | `(tactic| walk_at "getAttr ref") => `(tactic| (k_here; k_dflt (refine' Mine.get_own5 (by k_asm) (by k_asm) (by k_inst) (by k_is) (by k_is) (by k_is) (by k_is) (by k_get) (by k_handed) ?_; k_whole)))
namespace Mine
section
variable {w : World} {A₀ : Around} {base h₀ : Heap} {outer : List Env} {L : Addr} {m mg mb : Str → Option Value} {loose : List Str} {mean : ExcName → Option Value} {s : Shared} {Q E : Value → Shared → Prop} {p : Program}
  {hdl : Option Value} {d u : Nat} {gs : Option (List Code)} {rest : List (Addr × Obj)} {ns : List (Str × NameKind)} {ig ic : Bool} {mo : List (Str × Const)} {gl bi : Addr} {cs : List (Str × Addr)} {qn : Str} {fo : Option Addr} {cdv : Value}
/-- self.punctuation_chars -/
theorem get_punct {lx dx io pb fs : Addr} {wc cm pu tkx : Str} {lt1 : LxT} {ex : List DictEntry} {b sp : Bool} {ev f sv : Value} {ln : Int} {tl tt : Tok} {expr : Bool}
  (N : News h₀ L s.heap rest) (hm1 : (lx, instObj 722 dx) ∈ rest) (hm2 : (dx, lexG w.params lt1 b sp ev cm wc pu pb fs io f sv ln tl tkx tt ex) ∈ rest)
  (B : Below A₀ base outer h₀) (F : Fr h₀ L s.heap m) (X : (hd.heap_1 w.params).In h₀) (T : Top p loose mean mg mb h₀) (hdp : d < 980) (hun : u < 9800)
  (hQ : ∀ h' k, Fr h₀ L h' m → News h₀ L h' rest → Q (.str pu lt1.c18) { s with heap := h', toks := k })
  : wpAny (model prog w) (ar hdl d (fenv ns ig ic mo gl cs qn fo cdv bi L :: outer) gs u) (getAttr (.ref lx) (Str.ofString "punctuation_chars") expr) Q E s := by
  have N0 : News h₀ L s.heap ((lx, instObj 722 dx) :: (dx, lexG w.params lt1 b sp ev cm wc pu pb fs io f sv ln tl tkx tt ex) :: rest) := by
    intro p hp
    rcases List.mem_cons.mp hp with rfl | hp
    · exact N _ hm1
    · rcases List.mem_cons.mp hp with rfl | hp
      · exact N _ hm2
      · exact N _ hp
  clear N
  k_steps
  exact hQ _ _ (by assumption) (news_tl (news_tl (by assumption)))
end
end Mine

end
section
namespace Mine
section
variable {w : World} {A₀ : Around} {base h₀ : Heap} {outer : List Env} {L : Addr} {m mg mb : Str → Option Value} {loose : List Str} {mean : ExcName → Option Value} {s : Shared} {Q E : Value → Shared → Prop} {p : Program}
  {hdl : Option Value} {d u : Nat} {gs : Option (List Code)} {rest : List (Addr × Obj)} {ns : List (Str × NameKind)} {ig ic : Bool} {mo : List (Str × Const)} {gl bi : Addr} {cs : List (Str × Addr)} {qn : Str} {fo : Option Addr} {cdv : Value}
theorem read1_end {h' : Heap} {io iod : Addr} {x y : Str} {pos : Nat} {q : Int} {kt : IoT} {t t' k : Tok}
  (hR : ∀ h' t t' k, Fr h₀ L h' m → News h₀ L h' ((io, instObj 587 iod) :: (iod, ioD w.params kt x (if pos < x.length then pos + 1 else pos) t') :: rest) → Q (.str (ch1 x pos) t) { s with heap := h', toks := k })
  (e1 : y = ch1 x pos) (e2 : q = ((if pos < x.length then pos + 1 else pos : Nat) : Int)) (F : Fr h₀ L h' m)
  (N : News h₀ L h' ((io, instObj 587 iod) :: (iod, dictOf [ent w.params "_StringIO__newline" kt.a (.str (Str.ofString "\n") kt.b), ent w.params "_StringIO__buf" kt.c (.str x kt.d), ent w.params "_StringIO__pos" kt.e (.int q t')] 3) :: rest)) :
  Q (.str y t) { s with heap := h', toks := k } := by
  subst e1 e2
  exact hR h' t t' k F N
theorem read1 {io iod : Addr} {x : Str} {pos : Nat} {kt : IoT} {t2 tk : Tok}
  (B : Below A₀ base outer h₀) (F : Fr h₀ L s.heap m) (X : (hd.heap_1 w.params).In h₀) (T : Top p loose mean mg mb h₀) (hdp : d < 980) (hun : u < 9800)
  (hio : @LT.lt Nat _ iod io) (hx : x.length ≤ 100000) (hrest : ∀ p ∈ rest, p.1 ≠ iod)
  (N : News h₀ L s.heap ((io, instObj 587 iod) :: (iod, ioD w.params kt x pos t2) :: rest))
  (hR : ∀ h' t t' k, Fr h₀ L h' m → News h₀ L h' ((io, instObj 587 iod) :: (iod, ioD w.params kt x (if pos < x.length then pos + 1 else pos) t') :: rest) → Q (.str (ch1 x pos) t) { s with heap := h', toks := k })
  : wpAny (model prog w) (ar hdl d (fenv ns ig ic mo gl cs qn fo cdv bi L :: outer) gs u) (call (.ref 533) [.ref io, .int 1 tk]) Q E s := by
  refine wpAny_call ?_
  k_enter
  k_steps
  · have e := ch1_over (x := x) (pos := pos) (by assumption)
    refine read1_end hR e.symm ?_ (by assumption) (by assumption)
    rw [if_neg (by omega)]
  · refine read1_end hR (ch1_end rfl ?_ (by omega)) ?_ (by assumption) (by assumption)
    · rw [if_pos (by omega)]
    · rw [if_pos (by omega)]; omega
  · refine read1_end hR (ch1_end rfl ?_ (by omega)) ?_ (by assumption) (by assumption)
    · rw [if_neg (by omega)]
    · rw [if_pos (by omega)]; omega
theorem read_c {io iod : Addr} {x : Str} {pos c : Nat} {r : List Nat} {kt : IoT} {t2 tk : Tok}
  (B : Below A₀ base outer h₀) (F : Fr h₀ L s.heap m) (X : (hd.heap_1 w.params).In h₀) (T : Top p loose mean mg mb h₀) (hdp : d < 980) (hun : u < 9800)
  (hio : @LT.lt Nat _ iod io) (hx : x.length ≤ 100000) (hrest : ∀ p ∈ rest, p.1 ≠ iod) (hc : x.cps.toList.drop pos = c :: r)
  (N : News h₀ L s.heap ((io, instObj 587 iod) :: (iod, ioD w.params kt x pos t2) :: rest))
  (hR : ∀ h' t t' k, Fr h₀ L h' m → News h₀ L h' ((io, instObj 587 iod) :: (iod, ioD w.params kt x (pos + 1) t') :: rest) → Q (.str ⟨#[c]⟩ t) { s with heap := h', toks := k })
  : wpAny (model prog w) (ar hdl d (fenv ns ig ic mo gl cs qn fo cdv bi L :: outer) gs u) (call (.ref 533) [.ref io, .int 1 tk]) Q E s := by
  have hl : pos < x.length := by
    have h := congrArg List.length hc
    simp [Str.length] at h ⊢
    omega
  have e : ch1 x pos = ⟨#[c]⟩ := by unfold ch1; rw [hc]; rfl
  refine read1 B F X T hdp hun hio hx hrest N fun h' t t' k F' N' => ?_
  rw [if_pos hl] at N'
  rw [e]
  exact hR h' t t' k F' N'
theorem read_e {io iod : Addr} {x : Str} {pos : Nat} {kt : IoT} {t2 tk : Tok}
  (B : Below A₀ base outer h₀) (F : Fr h₀ L s.heap m) (X : (hd.heap_1 w.params).In h₀) (T : Top p loose mean mg mb h₀) (hdp : d < 980) (hun : u < 9800)
  (hio : @LT.lt Nat _ iod io) (hx : x.length ≤ 100000) (hrest : ∀ p ∈ rest, p.1 ≠ iod) (hc : x.cps.toList.drop pos = [])
  (N : News h₀ L s.heap ((io, instObj 587 iod) :: (iod, ioD w.params kt x pos t2) :: rest))
  (hR : ∀ h' t t' k, Fr h₀ L h' m → News h₀ L h' ((io, instObj 587 iod) :: (iod, ioD w.params kt x pos t') :: rest) → Q (.str (Str.ofString "") t) { s with heap := h', toks := k })
  : wpAny (model prog w) (ar hdl d (fenv ns ig ic mo gl cs qn fo cdv bi L :: outer) gs u) (call (.ref 533) [.ref io, .int 1 tk]) Q E s := by
  have hl : ¬ pos < x.length := by
    have h := congrArg List.length hc
    simp [Str.length] at h ⊢
    omega
  have e := ch1_over (x := x) (pos := pos) (by omega)
  refine read1 B F X T hdp hun hio hx hrest N fun h' t t' k F' N' => ?_
  rw [if_neg hl] at N'
  rw [e]
  exact hR h' t t' k F' N'
end
end Mine

end
section
namespace Mine
/-! the lexer's ledger folded: what never changes (K), and what read_token changes -/
structure GK where
  kt : IoT
  T : LxT
  ev : Value
  f : Value
  io : Addr
  iod : Addr
  lx : Addr
  dx : Addr
  fs : Addr
def lgG (P : Params) (K : GK) (pb pc : Addr) (x wc cm pu : Str) (ex : List DictEntry) (b sp : Bool) (sv : Value) (ln : Int) (tl : Tok) (tok : Str) (tt : Tok) (pos : Nat) (tp : Tok) (pcv : List Value) (pcn : Int) (rest : List (Addr × Obj)) : List (Addr × Obj) :=
  (K.io, instObj 587 K.iod) :: (K.iod, ioD P K.kt x pos tp) :: (pc, dqO pcv pcn) :: (K.lx, instObj 722 K.dx) :: (K.dx, lexG P K.T b sp K.ev cm wc pu pb K.fs K.io K.f sv ln tl tok tt ex) :: rest
structure ApG (K : GK) (pc : Addr) (rest : List (Addr × Obj)) : Prop where
  o : @LT.lt Nat _ K.iod K.io
  i1 : @Ne Nat pc K.iod
  i2 : @Ne Nat K.lx K.iod
  i3 : @Ne Nat K.dx K.iod
  i4 : ∀ p ∈ rest, p.1 ≠ K.iod
  d1 : @Ne Nat K.io K.dx
  d3 : @Ne Nat pc K.dx
  d4 : @Ne Nat K.lx K.dx
  d5 : ∀ p ∈ rest, p.1 ≠ K.dx
  c1 : @Ne Nat K.io pc
  c3 : @Ne Nat K.lx pc
  c5 : ∀ p ∈ rest, p.1 ≠ pc
theorem apG {K : GK} {pc : Addr} {rest : List (Addr × Obj)} (h1 : @LT.lt Nat _ K.dx K.lx) (h2 : @LT.lt Nat _ K.lx K.iod) (h3 : @LT.lt Nat _ K.iod K.io) (h4 : @LT.lt Nat _ K.io pc) (hr1 : ∀ p ∈ rest, p.1 ≠ K.iod) (hr2 : ∀ p ∈ rest, p.1 ≠ K.dx) (hr3 : ∀ p ∈ rest, p.1 ≠ pc) : ApG K pc rest := by
  have a1 := Nat.lt_trans h3 h4
  have a2 := Nat.lt_trans h1 h2
  have a3 := Nat.lt_trans a2 h3
  have a4 := Nat.lt_trans a3 h4
  have a5 := Nat.lt_trans h2 a1
  exact ⟨h3, Nat.ne_of_gt a1, Nat.ne_of_lt h2, Nat.ne_of_lt a2, hr1, Nat.ne_of_gt a3, Nat.ne_of_gt a4, Nat.ne_of_gt h1, hr2, Nat.ne_of_lt h4, Nat.ne_of_lt a5, hr3⟩
section
variable {w : World} {A : Around} {E : Value → Shared → Prop} {s : Shared} {L : Addr} {h₀ : Heap} {m : Str → Option Value} {K : GK} {pb pc : Addr} {x wc cm pu : Str} {ex : List DictEntry} {b sp : Bool} {sv : Value} {ln : Int} {tl : Tok} {tok : Str} {tt : Tok} {pos : Nat} {tp : Tok} {pcv : List Value} {pcn : Int} {rest l : List (Addr × Obj)} {name : Str} {v v0 : Value} {expr : Bool}
theorem ng_own {P : Params} : ∀ p ∈ lgG P K pb pc x wc cm pu ex b sp sv ln tl tok tt pos tp pcv pcn rest, p ∈ lgG P K pb pc x wc cm pu ex b sp sv ln tl tok tt pos tp pcv pcn rest := fun _ h => h
theorem ng_one {P : Params} {a : Addr × Obj} : ∀ p ∈ lgG P K pb pc x wc cm pu ex b sp sv ln tl tok tt pos tp pcv pcn rest, p ∈ a :: lgG P K pb pc x wc cm pu ex b sp sv ln tl tok tt pos tp pcv pcn rest := fun _ h => .tail _ h
theorem get_ng {Q : Value → Shared → Prop} {attr : Option Value} (F : Fr h₀ L s.heap m) (X₀ : (hd.heap_1 w.params).In h₀) (N : News h₀ L s.heap l) (hs : ∀ p ∈ lgG w.params K pb pc x wc cm pu ex b sp sv ln tl tok tt pos tp pcv pcn rest, p ∈ l)
    (hg : plainGet (hd.heap_1 w.params) 722 name = true) (hh : hasDictIn (hd.heap_1 w.params) 722 = true) (ha : findIn (hd.heap_1 w.params) (.ref 722) name = some attr) (hn : noGet (hd.heap_1 w.params) attr = true)
    (hl : getL name (esG w.params K.T b sp K.ev cm wc pu pb K.fs K.io K.f sv ln tl tok tt) = some (some v)) (hv : handedIn v = true) (h : Q v { s with toks := s.toks + 1 }) :
    wpAny (model prog w) A (getAttr (.ref K.lx) name expr) Q E s :=
  get_own F X₀ (InstAt.of_news N (hs _ (.tail _ (.tail _ (.tail _ (.head _))))) (hs _ (.tail _ (.tail _ (.tail _ (.tail _ (.head _))))))) hg hh ha hn (getL_app hl) hv h
theorem get_ng2 {Q : Value → Shared → Prop} {attr : Option Value} (F : Fr h₀ L s.heap m) (X₀ : (hd.heap_1 w.params).In h₀) (N : News h₀ L s.heap l) (hs : ∀ p ∈ lgG w.params K pb pc x wc cm pu ex b sp sv ln tl tok tt pos tp pcv pcn rest, p ∈ l)
    (hg : plainGet (hd.heap_1 w.params) 722 name = true) (hh : hasDictIn (hd.heap_1 w.params) 722 = true) (ha : findIn (hd.heap_1 w.params) (.ref 722) name = some attr) (hn : noGet (hd.heap_1 w.params) attr = true)
    (hl : getL name (app5 (esG w.params K.T b sp K.ev cm wc pu pb K.fs K.io K.f sv ln tl tok tt) ex) = some (some v)) (hv : handedIn v = true) (h : Q v { s with toks := s.toks + 1 }) :
    wpAny (model prog w) A (getAttr (.ref K.lx) name expr) Q E s :=
  get_own F X₀ (InstAt.of_news N (hs _ (.tail _ (.tail _ (.tail _ (.head _))))) (hs _ (.tail _ (.tail _ (.tail _ (.tail _ (.head _))))))) hg hh ha hn hl hv h
theorem meth_ng {pl : Sem Bool} {Q : Value × List Value → Shared → Prop} (F : Fr h₀ L s.heap m) (X₀ : (hd.heap_1 w.params).In h₀) (N : News h₀ L s.heap l) (hs : ∀ p ∈ lgG w.params K pb pc x wc cm pu ex b sp sv ln tl tok tt pos tp pcv pcn rest, p ∈ l)
    (h : Q (.ref 533, [.ref K.io]) s) : wpAny (model prog w) A (getMethod (.ref K.io) (Str.ofString "read") pl) Q E s :=
  method_inst F X₀ (InstAt.of_news N (hs _ (.head _)) (hs _ (.tail _ (.head _)))) (C := 587) (by k_is) (by k_is) (by k_is) (by k_get) h
theorem set_ng {Q : Unit → Shared → Prop} {sv' : Value} {ln' : Int} {tl' : Tok} {tok' : Str} {tt' : Tok} (F : Fr h₀ L s.heap m) (X₀ : (hd.heap_1 w.params).In h₀) (N : News h₀ L s.heap l) (hs : ∀ p ∈ lgG w.params K pb pc x wc cm pu ex b sp sv ln tl tok tt pos tp pcv pcn rest, p ∈ l)
    (hA : ApG K pc rest) (hex : ex.length ≤ 1) (ht : takerIn (hd.heap_1 w.params) 722 name = some none) (hl : getL name (esG w.params K.T b sp K.ev cm wc pu pb K.fs K.io K.f sv ln tl tok tt) = some (some v0))
    (e : (putL name (PyData.keyHash w.params name) (.str name (s.toks + 1)) v (esG w.params K.T b sp K.ev cm wc pu pb K.fs K.io K.f sv ln tl tok tt), putN name (esG w.params K.T b sp K.ev cm wc pu pb K.fs K.io K.f sv ln tl tok tt) 19) = (esG w.params K.T b sp K.ev cm wc pu pb K.fs K.io K.f sv' ln' tl' tok' tt', 19))
    (h : ∀ h' k, Fr h₀ L h' m → News h₀ L h' (lgG w.params K pb pc x wc cm pu ex b sp sv' ln' tl' tok' tt' pos tp pcv pcn rest) → Q () { s with heap := h', toks := k }) :
    wpAny (model prog w) A (setAttr (.ref K.lx) name v) Q E s := by
  have N1 : News h₀ L s.heap (lgG w.params K pb pc x wc cm pu ex b sp sv ln tl tok tt pos tp pcv pcn rest) := fun p hp => N p (hs p hp)
  exact set_dict5 F X₀ N1 (InstAt.of_news N1 (.tail _ (.tail _ (.tail _ (.head _)))) (.tail _ (.tail _ (.tail _ (.tail _ (.head _)))))) rfl (by k_is) (by k_is) ht (by k_is) hl e
    (.tail hA.d1 (.tail (Ne.symm hA.i3) (.tail hA.d3 (.tail hA.d4 (.head hA.d5))))) (Nat.le_of_ble_eq_true rfl) hex h
theorem dqm_ng {M : Model} {id : String} {pl : Sem Bool} {P : Params} {Q : Value × List Value → Shared → Prop} (slot : Slot "collections.deque" name id) (hty : typeOf (.builtin id) = pure (.type "method_descriptor")) (N : News h₀ L s.heap l) (hs : ∀ p ∈ lgG P K pb pc x wc cm pu ex b sp sv ln tl tok tt pos tp pcv pcn rest, p ∈ l)
    (h : Q (.builtin id, [.ref pc]) s) : wpAny M A (getMethod (.ref pc) name pl) Q E s := dq_method slot hty N (hs _ (.tail _ (.tail _ (.head _)))) h
theorem dqt_ng {P : Params} {Q : Bool → Shared → Prop} (N : News h₀ L s.heap l) (hs : ∀ p ∈ lgG P K pb pc x wc cm pu ex b sp sv ln tl tok tt pos tp pcv pcn rest, p ∈ l) (hz : pcv.length ≤ 900000)
    (h : Q (!pcv.isEmpty) { s with toks := s.toks + 1 + 1 }) : wpAny (model prog w) A (truthy (.ref pc)) Q E s := dq_truthy N (hs _ (.tail _ (.tail _ (.head _)))) hz h
theorem updc_ng {P : Params} {pcv' : List Value} {pcn' : Int} (hA : ApG K pc rest) : Upd pc (dqO pcv pcn) (dqO pcv' pcn') (lgG P K pb pc x wc cm pu ex b sp sv ln tl tok tt pos tp pcv pcn rest) (lgG P K pb pc x wc cm pu ex b sp sv ln tl tok tt pos tp pcv' pcn' rest) :=
  .tail hA.c1 (.tail (Ne.symm hA.i1) (.head fun p hp => by
    rcases List.mem_cons.mp hp with rfl | hp
    · exact hA.c3
    · rcases List.mem_cons.mp hp with rfl | hp
      · exact Ne.symm hA.d3
      · exact hA.c5 p hp))
theorem dqp_ng {Q : Value → Shared → Prop} (F : Fr h₀ L s.heap m) (N : News h₀ L s.heap l) (hs : ∀ p ∈ lgG w.params K pb pc x wc cm pu ex b sp sv ln tl tok tt pos tp [v] pcn rest, p ∈ l) (hA : ApG K pc rest)
    (h : ∀ h', Fr h₀ L h' m → News h₀ L h' (lgG w.params K pb pc x wc cm pu ex b sp sv ln tl tok tt pos tp [] (pcn + 1) rest) → Q v { s with heap := h' }) : wpAny (model prog w) A (call (.builtin "collections.deque.pop") [.ref pc]) Q E s :=
  dq_pop1 F (fun p hp => N p (hs p hp)) (updc_ng hA) h
theorem dqa_ng {Q : Value → Shared → Prop} (F : Fr h₀ L s.heap m) (N : News h₀ L s.heap l) (hs : ∀ p ∈ lgG w.params K pb pc x wc cm pu ex b sp sv ln tl tok tt pos tp [] pcn rest, p ∈ l) (hA : ApG K pc rest)
    (h : ∀ h', Fr h₀ L h' m → News h₀ L h' (lgG w.params K pb pc x wc cm pu ex b sp sv ln tl tok tt pos tp [v] (pcn + 1) rest) → Q .none { s with heap := h' }) : wpAny (model prog w) A (call (.builtin "collections.deque.append") [.ref pc, v]) Q E s :=
  dq_append1 F (fun p hp => N p (hs p hp)) (updc_ng hA) h
theorem dql_ng {Q : Value → Shared → Prop} (F : Fr h₀ L s.heap m) (N : News h₀ L s.heap l) (hs : ∀ p ∈ lgG w.params K pb pc x wc cm pu ex b sp sv ln tl tok tt pos tp [] pcn rest, p ∈ l) (hA : ApG K pc rest)
    (h : ∀ h', Fr h₀ L h' m → News h₀ L h' (lgG w.params K pb pc x wc cm pu ex b sp sv ln tl tok tt pos tp [v] (pcn + 1) rest) → Q .none { s with heap := h' }) : wpAny (model prog w) A (call (.builtin "collections.deque.appendleft") [.ref pc, v]) Q E s :=
  dq_appendleft1 F (fun p hp => N p (hs p hp)) (updc_ng hA) h
end
section
variable {w : World} {A₀ : Around} {base h₀ : Heap} {outer : List Env} {L : Addr} {m mg mb : Str → Option Value} {loose : List Str} {mean : ExcName → Option Value} {s : Shared} {Q E : Value → Shared → Prop} {p : Program}
  {hdl : Option Value} {d u : Nat} {gs : Option (List Code)} {rest : List (Addr × Obj)} {ns : List (Str × NameKind)} {ig ic : Bool} {mo : List (Str × Const)} {gl bi : Addr} {cs : List (Str × Addr)} {qn : Str} {fo : Option Addr} {cdv : Value}
variable {K : GK} {pb pc : Addr} {x wc cm pu : Str} {ex : List DictEntry} {b sp : Bool} {sv : Value} {ln : Int} {tl : Tok} {tok : Str} {tt : Tok} {pos : Nat} {tp : Tok} {pcv : List Value} {pcn : Int} {l : List (Addr × Obj)} {tk1 : Tok}
theorem i_ng {P : Params} (hA : ApG K pc rest) : ∀ p ∈ (pc, dqO pcv pcn) :: (K.lx, instObj 722 K.dx) :: (K.dx, lexG P K.T b sp K.ev cm wc pu pb K.fs K.io K.f sv ln tl tok tt ex) :: rest, p.1 ≠ K.iod := by
  intro p hp
  rcases List.mem_cons.mp hp with rfl | hp
  · exact hA.i1
  · rcases List.mem_cons.mp hp with rfl | hp
    · exact hA.i2
    · rcases List.mem_cons.mp hp with rfl | hp
      · exact hA.i3
      · exact hA.i4 p hp
theorem rdc_ng {c : Nat} {r : List Nat} (N : News h₀ L s.heap l) (hs : ∀ p ∈ lgG w.params K pb pc x wc cm pu ex b sp sv ln tl tok tt pos tp pcv pcn rest, p ∈ l) (hc : x.cps.toList.drop pos = c :: r) (hA : ApG K pc rest)
  (B : Below A₀ base outer h₀) (F : Fr h₀ L s.heap m) (X : (hd.heap_1 w.params).In h₀) (T : Top p loose mean mg mb h₀) (hdp : d < 980) (hun : u < 9800)
  (hx : x.length ≤ 100000)
  (hR : ∀ h' t t' k, Fr h₀ L h' m → News h₀ L h' (lgG w.params K pb pc x wc cm pu ex b sp sv ln tl tok tt (pos + 1) t' pcv pcn rest) → Q (.str ⟨#[c]⟩ t) { s with heap := h', toks := k })
  : wpAny (model prog w) (ar hdl d (fenv ns ig ic mo gl cs qn fo cdv bi L :: outer) gs u) (call (.ref 533) [.ref K.io, .int 1 tk1]) Q E s :=
  read_c B F X T hdp hun hA.o hx (i_ng hA) hc (fun p hp => N p (hs p hp)) hR
theorem rde_ng (N : News h₀ L s.heap l) (hs : ∀ p ∈ lgG w.params K pb pc x wc cm pu ex b sp sv ln tl tok tt pos tp pcv pcn rest, p ∈ l) (hc : x.cps.toList.drop pos = []) (hA : ApG K pc rest)
  (B : Below A₀ base outer h₀) (F : Fr h₀ L s.heap m) (X : (hd.heap_1 w.params).In h₀) (T : Top p loose mean mg mb h₀) (hdp : d < 980) (hun : u < 9800)
  (hx : x.length ≤ 100000)
  (hR : ∀ h' t t' k, Fr h₀ L h' m → News h₀ L h' (lgG w.params K pb pc x wc cm pu ex b sp sv ln tl tok tt pos t' pcv pcn rest) → Q (.str (Str.ofString "") t) { s with heap := h', toks := k })
  : wpAny (model prog w) (ar hdl d (fenv ns ig ic mo gl cs qn fo cdv bi L :: outer) gs u) (call (.ref 533) [.ref K.io, .int 1 tk1]) Q E s :=
  read_e B F X T hdp hun hA.o hx (i_ng hA) hc (fun p hp => N p (hs p hp)) hR
theorem pun_ng {expr : Bool} (N : News h₀ L s.heap l) (hs : ∀ p ∈ lgG w.params K pb pc x wc cm pu ex b sp sv ln tl tok tt pos tp pcv pcn rest, p ∈ l)
  (B : Below A₀ base outer h₀) (F : Fr h₀ L s.heap m) (X : (hd.heap_1 w.params).In h₀) (T : Top p loose mean mg mb h₀) (hdp : d < 980) (hun : u < 9800)
  (hQ : ∀ h' k, Fr h₀ L h' m → News h₀ L h' l → Q (.str pu K.T.c18) { s with heap := h', toks := k })
  : wpAny (model prog w) (ar hdl d (fenv ns ig ic mo gl cs qn fo cdv bi L :: outer) gs u) (getAttr (.ref K.lx) (Str.ofString "punctuation_chars") expr) Q E s :=
  get_punct N (hs _ (.tail _ (.tail _ (.tail _ (.head _))))) (hs _ (.tail _ (.tail _ (.tail _ (.tail _ (.head _)))))) B F X T hdp hun hQ
end
end Mine

end
section
namespace Mine
/-! law 1, plainly: what read_token gives without posix and comments, and how the law looks at it -/
structure ZF (W U : Nat → Bool) : Prop where
  wu : ∀ c, W c = true → U c = false
  uw : ∀ c, U c = true → isWs c = false
  uq : ∀ c, U c = true → isQ c = false
  ww : ∀ c, W c = true → isWs c = false
  wq : ∀ c, W c = true → isQ c = false
  qw : ∀ c, isQ c = true → isWs c = false
def rtz (sp : Bool) (W U : Nat → Bool) := rt5 true false sp W U (fun _ => false)
/-- _law_goes_on -/
def goz (sp : Bool) (W U : Nat → Bool) (c : Nat) : Bool := !isWs c && !U c && (sp || W c || isQ c)
/-- the next sign is not such -/
def noz (p : Nat → Bool) : List Nat → Bool
  | [] => true
  | c :: _ => !p c
/-- _law_stands -/
def standz (sp : Bool) (W U : Nat → Bool) (t after : List Nat) : Prop :=
  match t with
  | [] => False
  | c :: r => if U c then (∀ x ∈ c :: r, U x = true) ∧ noz U after = true
    else if isQ c then ∃ body, r = body ++ [c] ∧ c ∉ body
    else if goz sp W U c then (∀ x ∈ c :: r, goz sp W U x = true) ∧ noz (goz sp W U) after = true
    else r = []
/-- where a token ends -/
def Endz (st : S5) (gap rem : List Nat) (push : Option Nat) : Prop := (∀ c ∈ gap, isWs c = true) ∧ (st = .white ∨ (st = .fin ∧ gap = [] ∧ push = none ∧ rem = []))
section
variable {sp : Bool} {W U : Nat → Bool} (H : ZF W U)
include H
theorem goz_w {c : Nat} (h : isWs c = false) : (W c || isQ c || (sp && !U c)) = goz sp W U c := by
  unfold goz
  rw [h]
  cases hu : U c with
  | true =>
    have h1 := H.uq c hu
    have h2 : W c = false := by
      cases hw : W c with
      | false => rfl
      | true => rw [H.wu c hw] at hu; cases hu
    rw [h1, h2]; cases sp <;> rfl
  | false => cases sp <;> cases W c <;> cases isQ c <;> rfl
theorem z_word : ∀ {inp tok : List Nat} {ln : Int} {R : R5}, rtz sp W U inp .word tok ln = some R →
    ∃ t2 gap push rem st ln', inp = t2 ++ gap ++ push.toList ++ rem ∧ (∀ x ∈ t2, goz sp W U x = true) ∧ noz (goz sp W U) (gap ++ push.toList ++ rem) = true ∧ R = .ok (tok ++ t2) st rem ln' push ∧ Endz st gap rem push
  | [], tok, ln, R, h => by
    unfold rtz at h
    rw [re_no] at h
    obtain rfl := Option.some.inj h
    exact ⟨[], [], none, [], .fin, ln, rfl, fun _ h => (nomatch h), rfl, by rw [List.append_nil], fun _ h => (nomatch h), .inr ⟨rfl, rfl, rfl, rfl⟩⟩
  | c :: r, tok, ln, R, h => by
    unfold rtz at h
    rw [re_o] at h
    cases hw : isWs c with
    | true =>
      rw [hw, if_pos rfl] at h
      obtain rfl := Option.some.inj h
      refine ⟨[], [c], none, r, .white, _, rfl, fun _ h => (nomatch h), ?_, by rw [List.append_nil], fun x hx => by rw [List.mem_singleton.mp hx]; exact hw, .inl rfl⟩
      show (!goz sp W U c) = true
      unfold goz; rw [hw]; rfl
    | false =>
      rw [hw] at h
      simp only [Bool.false_eq_true, if_false, Bool.false_and] at h
      rw [goz_w H hw] at h
      cases hg : goz sp W U c with
      | true =>
        rw [hg, if_pos rfl] at h
        obtain ⟨t2, gap, push, rem, st, ln', e1, e2, e3, e4, e5⟩ := z_word (inp := r) h
        refine ⟨c :: t2, gap, push, rem, st, ln', by rw [e1]; rfl, ?_, e3, by rw [e4, List.append_assoc]; rfl, e5⟩
        intro x hx
        rcases List.mem_cons.mp hx with rfl | hx
        · exact hg
        · exact e2 x hx
      | false =>
        rw [hg] at h
        simp only [Bool.false_eq_true, if_false] at h
        obtain rfl := Option.some.inj h
        refine ⟨[], [], some c, r, .white, _, rfl, fun _ h => (nomatch h), ?_, by rw [List.append_nil], fun _ h => (nomatch h), .inl rfl⟩
        show (!goz sp W U c) = true
        rw [hg]; rfl
theorem z_punct : ∀ {inp tok : List Nat} {ln : Int} {R : R5}, rtz sp W U inp .punct tok ln = some R →
    ∃ t2 gap push rem st ln', inp = t2 ++ gap ++ push.toList ++ rem ∧ (∀ x ∈ t2, U x = true) ∧ noz U (gap ++ push.toList ++ rem) = true ∧ R = .ok (tok ++ t2) st rem ln' push ∧ Endz st gap rem push
  | [], tok, ln, R, h => by
    unfold rtz at h
    rw [re_np] at h
    obtain rfl := Option.some.inj h
    exact ⟨[], [], none, [], .fin, ln, rfl, fun _ h => (nomatch h), rfl, by rw [List.append_nil], fun _ h => (nomatch h), .inr ⟨rfl, rfl, rfl, rfl⟩⟩
  | c :: r, tok, ln, R, h => by
    unfold rtz at h
    rw [re_p] at h
    cases hw : isWs c with
    | true =>
      rw [hw, if_pos rfl] at h
      obtain rfl := Option.some.inj h
      refine ⟨[], [c], none, r, .white, _, rfl, fun _ h => (nomatch h), ?_, by rw [List.append_nil], fun x hx => by rw [List.mem_singleton.mp hx]; exact hw, .inl rfl⟩
      show (!U c) = true
      cases hu : U c with
      | false => rfl
      | true => rw [H.uw c hu] at hw; cases hw
    | false =>
      rw [hw] at h
      simp only [Bool.false_eq_true, if_false] at h
      cases hg : U c with
      | true =>
        rw [hg, if_pos rfl] at h
        obtain ⟨t2, gap, push, rem, st, ln', e1, e2, e3, e4, e5⟩ := z_punct (inp := r) h
        refine ⟨c :: t2, gap, push, rem, st, ln', by rw [e1]; rfl, ?_, e3, by rw [e4, List.append_assoc]; rfl, e5⟩
        intro x hx
        rcases List.mem_cons.mp hx with rfl | hx
        · exact hg
        · exact e2 x hx
      | false =>
        rw [hg] at h
        simp only [Bool.false_eq_true, if_false] at h
        obtain rfl := Option.some.inj h
        refine ⟨[], [], some c, r, .white, _, rfl, fun _ h => (nomatch h), ?_, by rw [List.append_nil], fun _ h => (nomatch h), .inl rfl⟩
        show (!U c) = true
        rw [hg]; rfl
omit H in
theorem z_quote {q : Nat} : ∀ {inp tok : List Nat} {ln : Int} {R : R5}, rtz sp W U inp (.quote q) tok ln = some R →
    (∃ body rem ln', inp = body ++ q :: rem ∧ q ∉ body ∧ R = .ok (tok ++ body ++ [q]) .white rem ln' none) ∨ (q ∉ inp ∧ ∃ ln', R = .fault (tok ++ inp) (.quote q) ln')
  | [], tok, ln, R, h => by
    unfold rtz at h
    rw [re_nq] at h
    obtain rfl := Option.some.inj h
    exact .inr ⟨fun h => (nomatch h), ln, by rw [List.append_nil]⟩
  | c :: r, tok, ln, R, h => by
    unfold rtz at h
    rw [re_q] at h
    cases hc : (c == q) with
    | true =>
      rw [hc] at h
      simp only [if_true, Bool.false_eq_true, if_false] at h
      obtain rfl := Option.some.inj h
      have e := beq_iff_eq.mp hc
      subst e
      exact .inl ⟨[], r, _, rfl, fun h => (nomatch h), by rw [List.append_nil]⟩
    | false =>
      rw [hc] at h
      simp only [Bool.false_eq_true, if_false, Bool.false_and] at h
      have hne : ¬ q = c := fun e => by rw [e, beq_self_eq_true] at hc; cases hc
      rcases z_quote (inp := r) h with ⟨body, rem, ln', e1, e2, e3⟩ | ⟨e1, ln', e2⟩
      · refine .inl ⟨c :: body, rem, ln', by rw [e1]; rfl, fun hm => ?_, by rw [e3]; simp⟩
        rcases List.mem_cons.mp hm with h | h
        · exact hne h
        · exact e2 h
      · refine .inr ⟨fun hm => ?_, ln', by rw [e2]; simp⟩
        rcases List.mem_cons.mp hm with h | h
        · exact hne h
        · exact e1 h
/-- one call -/
theorem z_tok : ∀ {inp : List Nat} {ln : Int} {R : R5}, rtz sp W U inp .white [] ln = some R →
    ∃ ws r, inp = ws ++ r ∧ (∀ c ∈ ws, isWs c = true) ∧
      ((r = [] ∧ ∃ ln', R = .ok [] .fin [] ln' none) ∨
       (∃ t gap push rem st ln', r = t ++ gap ++ push.toList ++ rem ∧ R = .ok t st rem ln' push ∧ Endz st gap rem push ∧ standz sp W U t (gap ++ push.toList ++ rem) ∧ noz isWs t = true) ∨
       (∃ q body ln', r = q :: body ∧ isQ q = true ∧ q ∉ body ∧ R = .fault (q :: body) (.quote q) ln'))
  | [], ln, R, h => by
    unfold rtz at h
    rw [re_nw] at h
    obtain rfl := Option.some.inj h
    exact ⟨[], [], rfl, fun _ h => (nomatch h), .inl ⟨rfl, ln, rfl⟩⟩
  | c :: r, ln, R, h => by
    unfold rtz at h
    rw [re_w] at h
    cases hw : isWs c with
    | true =>
      rw [hw, if_pos rfl] at h
      obtain ⟨ws, r', e1, e2, e3⟩ := z_tok (inp := r) h
      refine ⟨c :: ws, r', by rw [e1]; rfl, fun x hx => ?_, e3⟩
      rcases List.mem_cons.mp hx with rfl | hx
      · exact hw
      · exact e2 x hx
    | false =>
      rw [hw] at h
      simp only [Bool.false_eq_true, if_false, Bool.false_and] at h
      have hnw : ∀ {t : List Nat}, noz isWs (c :: t) = true := by intro t; show (!isWs c) = true; rw [hw]; rfl
      refine ⟨[], c :: r, rfl, fun _ h => (nomatch h), ?_⟩
      cases hW : W c with
      | true =>
        rw [hW, if_pos rfl] at h
        obtain ⟨t2, gap, push, rem, st, ln', e1, e2, e3, e4, e5⟩ := z_word H h
        refine .inr (.inl ⟨c :: t2, gap, push, rem, st, ln', by rw [e1]; rfl, e4, e5, ?_, hnw⟩)
        have hu := H.wu c hW
        have hq := H.wq c hW
        have hg : goz sp W U c = true := by unfold goz; rw [hw, hu, hW]; cases sp <;> rfl
        show (if U c then _ else if isQ c then _ else if goz sp W U c then _ else _)
        rw [hu, hq, hg]
        simp only [Bool.false_eq_true, if_false, if_true]
        refine ⟨fun x hx => ?_, e3⟩
        rcases List.mem_cons.mp hx with rfl | hx
        · exact hg
        · exact e2 x hx
      | false =>
        rw [hW] at h
        simp only [Bool.false_eq_true, if_false] at h
        cases hu : U c with
        | true =>
          rw [hu, if_pos rfl] at h
          obtain ⟨t2, gap, push, rem, st, ln', e1, e2, e3, e4, e5⟩ := z_punct H h
          refine .inr (.inl ⟨c :: t2, gap, push, rem, st, ln', by rw [e1]; rfl, e4, e5, ?_, hnw⟩)
          show (if U c then _ else if isQ c then _ else if goz sp W U c then _ else _)
          rw [hu]
          simp only [if_true]
          refine ⟨fun x hx => ?_, e3⟩
          rcases List.mem_cons.mp hx with rfl | hx
          · exact hu
          · exact e2 x hx
        | false =>
          rw [hu] at h
          simp only [Bool.false_eq_true, if_false] at h
          cases hq : isQ c with
          | true =>
            rw [hq] at h
            simp only [if_true, Bool.false_eq_true, if_false] at h
            rcases z_quote h with ⟨body, rem, ln', e1, e2, e3⟩ | ⟨e1, ln', e2⟩
            · refine .inr (.inl ⟨c :: (body ++ [c]), [], none, rem, .white, ln', by rw [e1]; simp, by rw [e3]; rfl, ⟨fun _ h => (nomatch h), .inl rfl⟩, ?_, hnw⟩)
              show (if U c then _ else if isQ c then _ else if goz sp W U c then _ else _)
              rw [hu, hq]
              simp only [Bool.false_eq_true, if_false, if_true]
              exact ⟨body, rfl, e2⟩
            · exact .inr (.inr ⟨c, r, ln', rfl, hq, e1, by rw [e2]; rfl⟩)
          | false =>
            rw [hq] at h
            simp only [Bool.false_eq_true, if_false] at h
            cases sp with
            | true =>
              simp only [if_true] at h
              obtain ⟨t2, gap, push, rem, st, ln', e1, e2, e3, e4, e5⟩ := z_word (sp := true) H h
              refine .inr (.inl ⟨c :: t2, gap, push, rem, st, ln', by rw [e1]; rfl, e4, e5, ?_, hnw⟩)
              have hg : goz true W U c = true := by unfold goz; rw [hw, hu]; rfl
              show (if U c then _ else if isQ c then _ else if goz true W U c then _ else _)
              rw [hu, hq, hg]
              simp only [Bool.false_eq_true, if_false, if_true]
              refine ⟨fun x hx => ?_, e3⟩
              rcases List.mem_cons.mp hx with rfl | hx
              · exact hg
              · exact e2 x hx
            | false =>
              simp only [Bool.false_eq_true, if_false] at h
              obtain rfl := Option.some.inj h
              refine .inr (.inl ⟨[c], [], none, r, .white, _, rfl, rfl, ⟨fun _ h => (nomatch h), .inl rfl⟩, ?_, hnw⟩)
              have hg : goz false W U c = false := by unfold goz; rw [hw, hu, hW, hq]; rfl
              show (if U c then _ else if isQ c then _ else if goz false W U c then _ else _)
              rw [hu, hq, hg]
              simp only [Bool.false_eq_true, if_false]
end
end Mine

end
section
namespace Mine
/-! law 1, plainly: all the calls -/
section
variable {sp : Bool} {W U : Nat → Bool}
/-- the law's walk over the words: r is what is left of the text -/
inductive Chkz (sp : Bool) (W U : Nat → Bool) (x : List Nat) : List (List Nat) → List Nat → Prop
  | nil : Chkz sp W U x [] x
  | snoc {ws : List (List Nat)} {r g t r' : List Nat} (h : Chkz sp W U x ws r) (e : r = g ++ t ++ r') (hg : ∀ c ∈ g, isWs c = true) (ht : noz isWs t = true) (hs : standz sp W U t r') : Chkz sp W U x (ws ++ [t]) r'
theorem stand_ne {t r : List Nat} (h : standz sp W U t r) : t ≠ [] := by
  rintro rfl; exact h
theorem Chkz.ne {x r : List Nat} {ws : List (List Nat)} (h : Chkz sp W U x ws r) : ∀ t ∈ ws, t ≠ [] := by
  induction h with
  | nil => exact fun _ h => (nomatch h)
  | snoc h e hg ht hs ih =>
    intro t hm
    rcases List.mem_append.mp hm with hm | hm
    · exact ih t hm
    · rw [List.mem_singleton.mp hm]; exact stand_ne hs
inductive TZ (sp : Bool) (W U : Nat → Bool) (x : List Nat) (i : Nat) (told : List (List Nat)) (st : S5) (inp : List Nat) : Prop
  | mk (ws : List (List Nat)) (j : Nat) (r g : List Nat) (e1 : told = ws ++ List.replicate j []) (hc : Chkz sp W U x ws r) (e2 : r = g ++ inp) (hg : ∀ c ∈ g, isWs c = true) (hst : (st = .white ∧ j = 0) ∨ (st = .fin ∧ inp = [])) (hi : i = ws.length + j) (hl : ws.length + inp.length ≤ x.length)
theorem tz_0 (x : List Nat) : TZ sp W U x 0 [] .white x := ⟨[], 0, x, [], rfl, .nil, rfl, fun _ h => (nomatch h), .inl ⟨rfl, rfl⟩, rfl, by simp⟩
theorem z_some (H : ZF W U) : ∀ (inp : List Nat) (st : S5) (tok : List Nat) (ln : Int), (st = .fin → inp = []) → st ≠ .esc → st ≠ .wordq → ∃ R, rtz sp W U inp st tok ln = some R
  | [], st, tok, ln, h1, h2, h3 => by
    cases st with
    | esc => exact absurd rfl h2
    | wordq => exact absurd rfl h3
    | _ => exact ⟨_, rfl⟩
  | c :: r, st, tok, ln, h1, h2, h3 => by
    have ih := fun st tok ln (a : st ≠ .fin) (b : st ≠ .esc) (d : st ≠ .wordq) => z_some H r st tok ln (fun e => absurd e a) b d
    unfold rtz at ih ⊢
    cases st with
    | esc => exact absurd rfl h2
    | wordq => exact absurd rfl h3
    | fin => cases h1 rfl
    | white =>
      rw [re_w]
      simp only [Bool.false_and, Bool.false_eq_true, if_false]
      repeat' split
      all_goals first | exact ⟨_, rfl⟩ | exact ih _ _ _ (fun e => nomatch e) (fun e => nomatch e) (fun e => nomatch e)
    | quote q =>
      rw [re_q]
      simp only [Bool.false_and, Bool.false_eq_true, if_false]
      repeat' split
      all_goals first | exact ⟨_, rfl⟩ | exact ih _ _ _ (fun e => nomatch e) (fun e => nomatch e) (fun e => nomatch e)
    | word =>
      rw [re_o]
      simp only [Bool.false_and, Bool.false_eq_true, if_false]
      repeat' split
      all_goals first | exact ⟨_, rfl⟩ | exact ih _ _ _ (fun e => nomatch e) (fun e => nomatch e) (fun e => nomatch e)
    | punct =>
      rw [re_p]
      simp only [Bool.false_eq_true, if_false]
      repeat' split
      all_goals first | exact ⟨_, rfl⟩ | exact ih _ _ _ (fun e => nomatch e) (fun e => nomatch e) (fun e => nomatch e)
/-- the quotation that isn't closed -/
def FaultZ (sp : Bool) (W U : Nat → Bool) (x : List Nat) (told : List (List Nat)) (q : Nat) (body : List Nat) : Prop :=
  ∃ r g, Chkz sp W U x told r ∧ r = g ++ q :: body ∧ (∀ c ∈ g, isWs c = true) ∧ isQ q = true ∧ q ∉ body
theorem tz_step (H : ZF W U) {x inp : List Nat} {i : Nat} {told : List (List Nat)} {st : S5} {ln : Int} {R : R5} (hT : TZ sp W U x i told st inp) (h : rtz sp W U inp st [] ln = some R) :
    (∃ t st' rem ln' push, R = .ok t st' rem ln' push ∧ TZ sp W U x (i + 1) (told ++ [t]) st' (push.toList ++ rem)) ∨ (∃ q body ln', R = .fault (q :: body) (.quote q) ln' ∧ FaultZ sp W U x told q body) := by
  obtain ⟨ws, j, r, g, e1, hc, e2, hg, hst, hi, hl⟩ := hT
  rcases hst with ⟨rfl, rfl⟩ | ⟨rfl, rfl⟩
  · rw [List.replicate_zero, List.append_nil] at e1
    subst e1
    obtain ⟨w0, r0, f1, f2, f3⟩ := z_tok H h
    have hgw : ∀ c ∈ g ++ w0, isWs c = true := fun c hc => (List.mem_append.mp hc).elim (hg c) (f2 c)
    rcases f3 with ⟨rfl, ln', f4⟩ | ⟨t, gap, push, rem, st, ln', f4, f5, ⟨f6, f7⟩, f8, f9⟩ | ⟨q, body, ln', f4, f5, f6, f7⟩
    · refine .inl ⟨[], .fin, [], ln', none, f4, told, 1, r, g ++ w0, rfl, hc, ?_, hgw, .inr ⟨rfl, rfl⟩, by rw [hi], ?_⟩
      · rw [e2, f1]; simp
      · exact Nat.le_trans (Nat.add_le_add_left (Nat.zero_le _) _) hl
    · refine .inl ⟨t, st, rem, ln', push, f5, told ++ [t], 0, gap ++ push.toList ++ rem, gap, by simp, .snoc hc (g := g ++ w0) ?_ hgw f9 f8, by simp, f6, ?_, by simp [hi], ?_⟩
      · rw [e2, f1, f4]; simp
      · rcases f7 with rfl | ⟨rfl, rfl, rfl, rfl⟩
        · exact .inl ⟨rfl, rfl⟩
        · exact .inr ⟨rfl, rfl⟩
      · have h1 : 1 ≤ t.length := List.length_pos_iff.mpr (stand_ne f8)
        have h2 : inp.length = w0.length + (t.length + (gap.length + (push.toList.length + rem.length))) := by rw [f1, f4]; simp
        simp only [List.length_append, List.length_cons, List.length_nil]
        omega
    · exact .inr ⟨q, body, ln', f7, r, g ++ w0, hc, by rw [e2, f1, f4]; simp, hgw, f5, f6⟩
  · have f1 : R = .ok [] .fin [] ln none := by
      unfold rtz at h
      rw [re_nf] at h
      exact (Option.some.inj h).symm
    refine .inl ⟨[], .fin, [], ln, none, f1, ws, j + 1, r, g, ?_, hc, e2, hg, .inr ⟨rfl, rfl⟩, by rw [hi]; rfl, hl⟩
    rw [e1, List.append_assoc, ← List.replicate_succ']
theorem tz_end {x inp : List Nat} {told : List (List Nat)} {st : S5} (hT : TZ sp W U x (x.length + 2) told st inp) :
    ∃ ws r, told = ws ++ List.replicate (x.length + 2 - ws.length) [] ∧ Chkz sp W U x ws r ∧ (∀ c ∈ r, isWs c = true) ∧ st = .fin ∧ inp = [] := by
  obtain ⟨ws, j, r, g, e1, hc, e2, hg, hst, hi, hl⟩ := hT
  rcases hst with ⟨rfl, rfl⟩ | ⟨rfl, rfl⟩
  · omega
  · have : x.length + 2 - ws.length = j := by omega
    rw [List.append_nil] at e2
    subst e2
    exact ⟨ws, r, by rw [this]; exact e1, hc, hg, rfl, rfl⟩
end
end Mine

end
section
namespace Mine
/-! law 1: the text's methods on texts of codes -/
theorem s_cps (l : List Nat) : (S l).cps.toList = l := by simp [S]
theorem s_size (l : List Nat) : (S l).cps.size = l.length := by simp [S]
theorem s_getD (l : List Nat) (k : Nat) : (S l).cps.getD k 0 = l.getD k 0 := by
  simp [S, Array.getD_eq_getD_getElem?, List.getD_eq_getElem?_getD]
theorem s_len (l : List Nat) : (S l).length = l.length := by simp [S, Str.length]
theorem item0 (c : Nat) (r : List Nat) : Txt.item (S (c :: r)) 0 = ⟨#[c]⟩ := by
  unfold Txt.item
  simp [S, Txt.charAt, seqIndex?, Str.length]
theorem find_z {c : Nat} {body : List Nat} (h : c ∉ body) : Txt.find3 (S (c :: (body ++ [c]))) ⟨#[c]⟩ 1 = ((body.length + 1 : Nat) : Int) := by
  have hl : (S (c :: (body ++ [c]))).length = body.length + 2 := by rw [s_len]; simp
  have e1 : fromIndex (S (c :: (body ++ [c]))).length 1 = 1 := by unfold fromIndex; rw [if_neg (by omega)]; rfl
  have hat : ∀ k, k < body.length → (S (c :: (body ++ [c]))).cps.getD (k + 1) 0 = body.getD k 0 := by
    intro k hk
    rw [s_getD]
    simp [List.getElem?_append_left hk]
  have hend : (S (c :: (body ++ [c]))).cps.getD (body.length + 1) 0 = c := by
    rw [s_getD]; simp
  have hne : ∀ k, k < body.length → body.getD k 0 ≠ c := by
    intro k hk e
    apply h
    rw [← e, List.getD_eq_getElem?_getD, List.getElem?_eq_getElem hk]
    exact List.getElem_mem hk
  rcases StrLaws.find3_spec (S (c :: (body ++ [c]))) c 1 with ⟨_, hn⟩ | ⟨k, e, h1, h2, h3, h4⟩
  · exact absurd hend (hn (body.length + 1) (by rw [e1]; omega) (by rw [hl]; omega))
  · rw [e]
    rw [e1] at h1 h4
    rw [hl] at h2
    have : k = body.length + 1 := by
      rcases Nat.lt_trichotomy k (body.length + 1) with hk | hk | hk
      · obtain ⟨j, rfl⟩ : ∃ j, k = j + 1 := ⟨k - 1, by omega⟩
        exact absurd ((hat j (by omega)).symm.trans h3) (hne j (by omega))
      · exact hk
      · omega
    rw [this]
section
variable {sp : Bool} {W U : Nat → Bool} {c : Nat} {r a : List Nat}
theorem stand_U (hs : standz sp W U (c :: r) a) (hu : U c = true) : (∀ x ∈ c :: r, U x = true) ∧ noz U a = true := by
  unfold standz at hs; dsimp only at hs; rw [if_pos hu] at hs; exact hs
theorem stand_Q (hs : standz sp W U (c :: r) a) (hu : U c = false) (hq : isQ c = true) : ∃ body, r = body ++ [c] ∧ c ∉ body := by
  unfold standz at hs; dsimp only at hs; rw [if_neg (by rw [hu]; exact Bool.false_ne_true), if_pos hq] at hs; exact hs
theorem stand_G (hs : standz sp W U (c :: r) a) (hu : U c = false) (hq : isQ c = false) (hg : goz sp W U c = true) : (∀ x ∈ c :: r, goz sp W U x = true) ∧ noz (goz sp W U) a = true := by
  unfold standz at hs; dsimp only at hs; rw [if_neg (by rw [hu]; exact Bool.false_ne_true), if_neg (by rw [hq]; exact Bool.false_ne_true), if_pos hg] at hs; exact hs
theorem stand_1 (hs : standz sp W U (c :: r) a) (hu : U c = false) (hq : isQ c = false) (hg : goz sp W U c = false) : r = [] := by
  unfold standz at hs; dsimp only at hs; rw [if_neg (by rw [hu]; exact Bool.false_ne_true), if_neg (by rw [hq]; exact Bool.false_ne_true), if_neg (by rw [hg]; exact Bool.false_ne_true)] at hs; exact hs
end
end Mine

end
section
namespace Mine
/-! law 1: lstrip, startswith, slice on texts of codes -/
abbrev wsS1 : Str := Str.ofString " \t\x0d\n"
theorem ws_has (c : Nat) : wsS1.cps.contains c = isWs c := by
  unfold isWs wsS1
  rw [Bool.eq_iff_iff]
  simp
theorem take_ws {g t : List Nat} (hg : ∀ c ∈ g, isWs c = true) (ht : t = [] ∨ noz isWs t = true) : (g ++ t).takeWhile wsS1.cps.contains = g := by
  induction g with
  | nil =>
    cases t with
    | nil => rfl
    | cons c r =>
      have h : isWs c = false := by
        rcases ht with h | h
        · cases h
        · simpa [noz] using h
      rw [List.nil_append, List.takeWhile_cons, ws_has, h]; rfl
  | cons c r ih =>
    rw [List.cons_append, List.takeWhile_cons, ws_has, hg c (.head _)]
    simp only [if_true]
    rw [ih fun x hx => hg x (.tail _ hx)]
theorem lstrip_z {g t : List Nat} (hg : ∀ c ∈ g, isWs c = true) (ht : t = [] ∨ noz isWs t = true) : Txt.lstripChars (S (g ++ t)) wsS1 = S t := by
  unfold Txt.lstripChars
  rw [PyProof.Rows.stripBy_eq]
  have hlo : stripLo wsS1.cps.contains true (S (g ++ t)) = g.length := by
    unfold stripLo
    rw [if_pos rfl, s_cps, take_ws hg ht]
  rw [hlo]
  unfold stripHi
  rw [if_neg Bool.false_ne_true]
  unfold Builtin.Str.strSub
  simp [S, Str.length]
theorem starts_z (t r : List Nat) : Txt.startswith (S (t ++ r)) (S t) = true := by
  unfold Txt.startswith
  rw [StrLaws.subAt_eq]
  simp [S, Str.length]
theorem slice_z (t r : List Nat) : Txt.slice (S (t ++ r)) (some (t.length : Int)) none = S r := by
  have h1 : ((t ++ r).length : Int) - t.length = r.length := by rw [List.length_append]; omega
  have := slice_from_eq (x := S (t ++ r)) (i := (t.length : Int)) (b := ((t ++ r).length : Int)) (by omega) (by rw [s_len, List.length_append]; omega) (by rw [s_len])
  rw [this, s_cps, h1]
  simp [S]
end Mine

end
section
namespace Mine
section
variable {w : World} {A : Around} {s : Shared} {R : Result → Shared → Prop}
theorem io_new (X : (hd.heap_1 w.params).In s.heap) (hq : R (.ok (.ret (.ref (s.heap.objs.size + 1)))) { s with heap := (s.heap.push emptyDict).push (instObj 587 s.heap.objs.size) }) :
    codeAny (model prog w) A (.call (.builtin "object.__new__") ⟨[.ref 587], []⟩) R s := by
  obtain ⟨h, g, d, t, os⟩ := s
  have hC := X 587 _ (by k_is)
  have F := PySem.F.objNew
  have here : Looks (model prog w) h (Bind.madeHere "object.__new__" (.ref 587)) () := Looks.of_peek X (by kernel_rfl)
  have self : Looks (model prog w) h (isSubtype (.ref 587) (.ref 587)) true := looks_subIn X (by k_is)
  have top : Looks (model prog w) h (isSubtype (.ref 587) (.type "object")) true := looks_subIn X (by k_is)
  have typ : Looks (model prog w) h (isInstance (.ref 587) (.type "type")) true := looks_instIn X (by k_is)
  have chk : Looks (model prog w) h (checkBuiltinCall "object.__new__" ⟨[.ref 587], []⟩) () := Looks.of_peek X (by kernel_rfl)
  refine codeAny_call_builtin_code (Code.quiet_builtin _ F.quiet) (chk.here ?_)
  refine codeAny_builtin F.entry ?_
  unfold Builtin.«object.__new__»
  have fin : ∀ A', wpAny (model prog w) A' (do
      let d ← if typeHasDict (.ref 587) then some <$> alloc { cls := .type "dict", data := .dict #[] } else pure none
      ret (← newObj (.ref 587) .plain d)) (fun fin s' => match fin with | .done f => R (.ok f) s' | .again c' => c'.quiet = true ∧ codeAny (model prog w) A c' R s') (fun e s' => R (.error e) s') ⟨h, g, d, t, os⟩ := by
    intro A'
    show wpAny _ _ ((alloc emptyDict >>= fun x => pure (some x)) >>= _) _ _ _
    refine wpAny_bind (wpAny_bind (wpAny_alloc (wpAny_pure (wpAny_bind ?_))))
    show wpAny _ _ (newObjAsIs _ _ _) _ _ _
    unfold newObjAsIs classHasDel
    refine wpAny_bind (wpAny_alloc (wpAny_bind (wpAny_bind (wpAny_load (Heap.get?_push_of_some _ (Heap.get?_push_of_some _ hC)) (wpAny_pure ?_)))))
    refine wpAny_pure (wpAny_pure ?_)
    show R _ _
    rw [Heap.size_push]
    exact hq
  repeat (first | simp only [Bool.false_eq_true, if_false] | exact fin _ | lk)
  all_goals trace_state
end
section
variable {w : World} {A : Around} {E : Value → Shared → Prop} {s : Shared} {h₀ : Heap} {L : Addr} {m : Str → Option Value} {news : List (Addr × Obj)}
theorem io_new_w {Q : Value → Shared → Prop} (F : Fr h₀ L s.heap m) (X : (hd.heap_1 w.params).In h₀) (N : News h₀ L s.heap news)
    (h : ∀ x dx h', Fr h₀ L h' m → News h₀ L h' ((x, instObj 587 dx) :: (dx, dictOf [] 0) :: news) → (∀ p ∈ news, p.1 < dx) → dx < x → Q (.ref x) { s with heap := h' }) :
    wpAny (model prog w) A (call (.builtin "object.__new__") [.ref 587]) Q E s := by
  refine wpAny_call (io_new (X.keeps F.keep) ?_)
  have := (N.push F emptyDict).push (F.push _) (instObj 587 s.heap.objs.size)
  rw [Heap.size_push] at this
  exact h _ s.heap.objs.size _ ((F.push _).push _) this (fun p hp => Heap.lt_size (N p hp).1) (Nat.lt_succ_self _)
end
end Mine
namespace Mine
section
variable {w : World} {A₀ : Around} {base h₀ : Heap} {outer : List Env} {L : Addr} {m mg mb : Str → Option Value} {loose : List Str} {mean : ExcName → Option Value} {s : Shared} {Q E : Value → Shared → Prop} {p : Program}
  {hdl : Option Value} {d u : Nat} {gs : Option (List Code)} {rest : List (Addr × Obj)} {ns : List (Str × NameKind)} {ig ic : Bool} {mo : List (Str × Const)} {gl bi : Addr} {cs : List (Str × Addr)} {qn : Str} {fo : Option Addr} {cdv : Value}
theorem news_drop2 {h₀ h : Heap} {L : Addr} {a b c d : Addr × Obj} {rest : List (Addr × Obj)} (N : News h₀ L h (a :: b :: c :: d :: rest)) : News h₀ L h (a :: b :: rest) := by
  intro q hq
  refine N q ?_
  rcases List.mem_cons.mp hq with rfl | hq
  · exact .head _
  · rcases List.mem_cons.mp hq with rfl | hq
    · exact .tail _ (.head _)
    · exact .tail _ (.tail _ (.tail _ (.tail _ hq)))
theorem io_make {x : Str} {tk : Tok}
  (B : Below A₀ base outer h₀) (F : Fr h₀ L s.heap m) (X : (hd.heap_1 w.params).In h₀) (T : Top p loose mean mg mb h₀) (hdp : d < 980) (hun : u < 9800)
  (hx : x.length ≤ 100000)
  (N : News h₀ L s.heap rest)
  (hQ : ∀ io iod h' kt t k, Fr h₀ L h' m → News h₀ L h' ((io, instObj 587 iod) :: (iod, ioD w.params kt x 0 t) :: rest) → AllLt iod rest → @LT.lt Nat _ iod io → Q (.ref io) { s with heap := h', toks := k })
  : wpAny (model prog w) (ar hdl d (fenv ns ig ic mo gl cs qn fo cdv bi L :: outer) gs u) (call (.ref 587) [.str x tk]) Q E s := by
  have XS := X.keeps F.keep
  have hC := XS 587 _ (by k_is)
  have typ : Looks (model prog w) s.heap (isInstance (.ref 587) (.type "type")) true := looks_instIn XS (by k_is)
  have cl : Looks (model prog w) s.heap (specialOf (.ref 587) "__call__") (some (.builtin "type.__call__")) := looks_specialIn XS (by k_is)
  have made : Looks (model prog w) s.heap (Bind.madeBy (.ref 587)) none := Looks.of_peek XS (by kernel_rfl)
  have mro : Looks (model prog w) s.heap (mroOf (.ref 587)) [.ref 587, .ref 110, .ref 83, .type "object"] := Looks.of_peek XS (by kernel_rfl)
  refine wpAny_call (codeAny_of_tree ?_)
  show wpAny _ _ (callAny (.ref 587) _) _ _ _
  refine nd_load hC ?_
  show wpAny _ _ (callAny.viaDunder (.ref 587) _) _ _ _
  unfold callAny.viaDunder
  refine wpAny_bind (cl.here ?_)
  dsimp only
  rw [tc_bind]
  refine wpAny_bind (wpAny_pure (wpAny_bind (wpAny_pure ?_)))
  refine wpAny_pure (a := Fin.again (.call (.builtin "type.__call__") ⟨[.ref 587, .str x tk], []⟩)) (And.intro rfl ?_)
  refine codeAny_call_builtin_at (Code.quiet_builtin _ (by decide +kernel)) entry_typeCall (check_slot tc_kind tc_split typ (tc_args _ _ _) ?_)
  unfold Builtin.«type.__call__»
  refine wpAny_bind (mro.here ?_)
  simp only [List.isEmpty_cons, Bool.false_eq_true, if_false]
  refine wpAny_bind (made.here ?_)
  dsimp only
  refine wpAny_bind ?_
  walk1
  refine wpAny_bind (wpAny_holding ?_)
  (repeat' (first | (k_unfold; (try dsimp only)) | ((fail_if_success (with_reducible show wpAny _ _ (call (Value.builtin "object.__new__") _) _ _ _)); walk1)))
  k_dflt (refine' Mine.io_new_w ?k1 ?k2 ?k3 ?_; (case k1 => k_asm); (case k2 => k_asm); (case k3 => k_asm); k_whole)
  intro x' d' h' F' N' l1 l2
  (try k_lt l1)
  (try k_lt2 l2)
  (try k_sweep)
  k_steps
  rename Fr h₀ L _ m => kF
  rename News h₀ L _ _ => kN
  rename (hd.heap_1 w.params).In h₀ => _X2
  have XS2 := X.keeps kF.keep
  have I := InstAt.of_news (C := 587) kN (List.Mem.head _) (List.Mem.tail _ (List.Mem.head _))
  have sub : Looks (model prog w) _ (isSubtype (.ref 587) (.ref 587)) true := looks_subIn XS2 (by k_is)
  refine wpAny_bind ?_
  unfold isInstance
  refine wpAny_bind (I.type.here (sub.here ?_))
  simp only [Bool.not_true, Bool.false_eq_true, if_false]
  refine wpAny_bind (wpAny_holding (special_fn XS2 I (by k_is) (by k_is) ?_))
  k_steps
  rw [if_neg (by decide)]
  refine wpAny_pure ?_
  rename News h₀ L _ _ => kN2
  rename Fr h₀ L _ m => kF2
  rename _ ∧ _ ∧ _ => hl
  exact hQ _ _ _ ⟨_, _, _, _, _⟩ _ _ kF2 (news_drop2 kN2) hl.2.2 (by assumption)
end
end Mine

end
section
namespace Mine
/-! dict.fromkeys of a text, str.maketrans of that, str.translate by that -/
def Kp (h h' : Heap) : Prop := ∀ b o, h.get? b = some o → h'.get? b = some o
theorem Kp.but {g h h' : Heap} {a : Addr} (k : Kp g h) (hs : Heap.SameBut a h h') (ha : g.get? a = none) : Kp g h' := fun b o e => by
  have : b ≠ a := by intro z; subst z; rw [ha] at e; cases e
  exact (hs.2 b this).trans (k b o e)
theorem Kp.ext {g h h' : Heap} {a : Addr} (k : Kp g h) (hs : Heap.ExtBut a h h') (ha : g.get? a = none) : Kp g h' := fun b o e => by
  have : b ≠ a := by intro z; subst z; rw [ha] at e; cases e
  exact hs b o this (k b o e)
theorem get_ge {h : Heap} {a : Addr} (e : h.objs.size ≤ a) : h.get? a = none := by
  cases q : h.get? a with
  | none => rfl
  | some o => exact absurd (Heap.lt_size q) (Nat.not_lt.mpr e)
def FK (l : List Nat) (kvs : List (Str × Value)) : Prop := (∀ p ∈ kvs, p.2 = .none ∧ ∃ c ∈ l, p.1 = ⟨#[c]⟩) ∧ (∀ c ∈ l, ∃ p ∈ kvs, p.1 = ⟨#[c]⟩) ∧ kvs.length ≤ l.length
theorem FK.step {l : List Nat} {kvs : List (Str × Value)} {c : Nat} (h : FK l kvs) : FK (l ++ [c]) (stored kvs ⟨#[c]⟩ .none) := by
  unfold stored
  obtain ⟨h1, h2, h3⟩ := h
  split
  · rename_i ha
    refine ⟨?_, ?_, by simp; omega⟩
    · intro p hp
      obtain ⟨q, hq, rfl⟩ := List.mem_map.mp hp
      obtain ⟨a, c', hc', b⟩ := h1 q hq
      split
      · exact ⟨rfl, c', List.mem_append_left _ hc', b⟩
      · exact ⟨a, c', List.mem_append_left _ hc', b⟩
    · intro c' hc'
      rcases List.mem_append.mp hc' with h | h
      · obtain ⟨p, hp, e⟩ := h2 c' h
        refine ⟨_, List.mem_map.mpr ⟨p, hp, rfl⟩, ?_⟩
        split <;> exact e
      · rw [List.mem_singleton.mp h]
        obtain ⟨p, hp, e⟩ := List.any_eq_true.mp ha
        refine ⟨_, List.mem_map.mpr ⟨p, hp, rfl⟩, ?_⟩
        have := of_decide_eq_true e
        split <;> exact this
  · refine ⟨?_, ?_, by simp; omega⟩
    · intro p hp
      rcases List.mem_append.mp hp with h | h
      · obtain ⟨a, c', hc', b⟩ := h1 p h
        exact ⟨a, c', List.mem_append_left _ hc', b⟩
      · rw [List.mem_singleton.mp h]
        exact ⟨rfl, c, by simp, rfl⟩
    · intro c' hc'
      rcases List.mem_append.mp hc' with h | h
      · obtain ⟨p, hp, e⟩ := h2 c' h
        exact ⟨p, List.mem_append_left _ hp, e⟩
      · rw [List.mem_singleton.mp h]
        exact ⟨_, List.mem_append_right _ (.head _), rfl⟩
theorem fk_loop_entry : entryFor table "dict.fromkeys.loop" = some Builtin.«dict.fromkeys.loop» := entryFor_of_tree (by kernel_rfl)
theorem fk_loop_plain : plainId "dict.fromkeys.loop" = true := by decide +kernel
section
variable {w : World} {A : Around} {E : Value → Shared → Prop} {s : Shared}
theorem fk_size {l : List Nat} {n i : Nat} {kvs : List (Str × Value)} (h : kvs.length ≤ (l.take i).length) (hl : l.length ≤ 100) : kvs.length ≤ sizeLine := by
  have hz : sizeLine ≥ 1000 := by decide +kernel
  have h2 : (l.take i).length ≤ l.length := by simp; omega
  omega
theorem fk_loop {x : Str} {t : Tok} {D I : Addr} {R : Result → Shared → Prop} (hh : A.handled = none) (hDI : D ≠ I) (hl : x.cps.size ≤ 100) (g : Heap) (hD : g.get? D = none) (hI : g.get? I = none)
  (hR : ∀ h' tk kvs, Kp g h' → h'.DictOf (strKind prog w) D kvs → FK x.cps.toList kvs → R (.ok (.ret (.ref D))) { s with heap := h', toks := tk }) :
  ∀ (k i : Nat) (kvs : List (Str × Value)) (h : Heap) (tk : Nat), i + k = x.cps.size → Kp g h → h.DictOf (strKind prog w) D kvs → h.IsStrIter I "str_ascii_iterator" x t i → FK (x.cps.toList.take i) kvs →
    codeAny (model prog w) A (.builtin "dict.fromkeys.loop" ⟨[.ref D, .ref I, .none], []⟩) R { s with heap := h, toks := tk } := by
  intro k
  induction k with
  | zero =>
    intro i kvs h tk hi hk hd hit hf
    refine codeAny_builtin fk_loop_entry ?_
    rw [Around.under_plainId fk_loop_plain _]
    show wpAny _ A.in1 (pyNext (.ref I) >>= _) _ _ _
    refine wpAny_bind (wpAny_pyNext_ascii_end hh hit (by simp; omega) fun h' hs' => ?_)
    refine wpAny_pure ?_
    refine hR h' tk kvs (hk.ext hs' hI) (hd.extBut hs' hDI) ?_
    rw [List.take_of_length_le (by simp; omega)] at hf
    exact hf
  | succ k ih =>
    intro i kvs h tk hi hk hd hit hf
    have hlt : i < x.cps.size := by omega
    have hx : x.cps[i]? = some x.cps[i] := by simp [hlt]
    refine codeAny_builtin fk_loop_entry ?_
    rw [Around.under_plainId fk_loop_plain _]
    show wpAny _ A.in1 (pyNext (.ref I) >>= _) _ _ _
    refine wpAny_bind (wpAny_pyNext_ascii_item hit hx fun h' hit' hs' => ?_)
    have hd' := hd.sameBut hs' hDI
    have hk' := hk.but hs' hI
    dsimp only
    refine wpAny_bind (wpAny_typeOf (hd'.mapOf.typeIs) ?_)
    refine wpAny_bind (wpAny_of_eq (a := D) rfl ?_)
    refine wpAny_bind (wpAny_holding (wpAny_dictSet_pairs (knd := strKind prog w) (k := ⟨#[x.cps[i]]⟩) (strKind_is _ _ _ _) hd' (fun h2 hd2 hs2 => ?_) (fk_size (n := 0) hf.2.2 (by simpa using hl))))
    refine wpAny_pure ⟨plainId_quiet fk_loop_plain _, ?_⟩
    refine ih (i + 1) _ h2 _ (by omega) (hk'.but hs2 hD) hd2 ?_ ?_
    · obtain ⟨o, ho, r⟩ := hit'
      exact ⟨o, (hs2.2 I (Ne.symm hDI)).trans ho, r⟩
    · have e : x.cps.toList.take (i + 1) = x.cps.toList.take i ++ [x.cps[i]] := by
        rw [List.take_add_one]
        congr 1
        simp [hlt]
      rw [e]
      exact hf.step
theorem fk_typeCall : checkTypeCall "dict" ⟨[], []⟩ = pure () := by kernel_rfl
theorem fk_newCall : checkBuiltinCall "dict.__new__" ⟨[.type "dict"], []⟩ = pure () := by kernel_rfl
theorem fk_args_init (a : Value) : argsOk "dict.__init__" ⟨[a], []⟩ := by first | exact F.args_dict_init_1 _ | (unfold argsOk; kernel_rfl)
theorem fk_code_new {Q₁ : Value → Shared → Prop} (h : Q₁ (.ref s.heap.objs.size) { s with heap := s.heap.push { cls := .type "dict", data := .dict #[] } }) :
    codeAny (model prog w) A (.call (.builtin "dict.__new__") ⟨[.type "dict"], []⟩) (wants Q₁ E) s := by
  refine codeAny_call_builtin F.kt_plain_dict_new F.kt_entry_dict_new (wpAny_of_eq fk_newCall ?_)
  have hsub := F.kt_sub_dict
  have hmro := F.kt_mro_dict
  obtain ⟨hp, g, d, tk, os⟩ := s
  unfold Builtin.«dict.__new__»
  wp_walk
  exact h
theorem fk_dict0 {K : Type} [DecidableEq K] {knd : KeyKind prog w K} {Q : Value → Shared → Prop}
    (h : (s.heap.push { cls := .type "dict", data := .dict #[] }).DictOf knd s.heap.objs.size [] → Q (.ref s.heap.objs.size) { s with heap := s.heap.push { cls := .type "dict", data := .dict #[] } }) :
    wpAny (model prog w) A (call (.type "dict") []) Q E s := by
  refine callType_codes (Q₁ := fun obj s₁ => obj = .ref s.heap.objs.size ∧ s₁ = { s with heap := s.heap.push { cls := .type "dict", data := .dict #[] } }) F.kt_called_dict fk_typeCall F.entry_dict_init (fk_code_new ⟨rfl, rfl⟩) ?_
  rintro obj s₁ ⟨rfl, rfl⟩
  have hnew : (s.heap.push { cls := .type "dict", data := .dict #[] }).DictOf knd s.heap.objs.size [] := Heap.DictOf.new s.heap
  refine ⟨hnew.mapOf.typeIs, fk_args_init _, ?_⟩
  unfold Builtin.«dict.__init__»
  refine wpAny_bind ?_
  unfold Builtin.Dict.selfAndRest
  refine wpAny_bind (wpAny_notOrdered_dict hnew.mapOf.typeIs ?_)
  show wpAny _ _ (pure (s.heap.objs.size, [])) _ _ _
  refine wpAny_pure ?_
  show wpAny _ _ (Builtin.Dict.updateCommon "dict.__init__" "dict" s.heap.objs.size [] []) _ _ _
  unfold Builtin.Dict.updateCommon
  wp_walk
  exact ⟨rfl, h hnew⟩
theorem fk_sub : isSubtype (.type "dict") (.type "dict") = pure true := by rw [isSubtype_type]; kernel_rfl
theorem fk_isType : isType (.type "dict") = pure true := by first | rfl | kernel_rfl | (unfold isType; rw [isSubtype_type]; kernel_rfl)
theorem fk_entry : entryFor table "dict.fromkeys" = some Builtin.«dict.fromkeys» := entryFor_of_tree (by kernel_rfl)
theorem fk_code {x : Str} {t : Tok} {P : Fin → Shared → Prop} (hh : A.handled = none) (hl : x.cps.size ≤ 100) (ha : x.cps.all (· < 128) = true)
  (hR : ∀ D I h' tk, Kp s.heap h' → D ≠ I → s.heap.objs.size ≤ D → s.heap.get? I = none → h'.DictOf (strKind prog w) D [] → h'.IsStrIter I "str_ascii_iterator" x t 0 → P (.again (.builtin "dict.fromkeys.loop" ⟨[.ref D, .ref I, .none], []⟩)) { s with heap := h', toks := tk }) :
  wpAny (model prog w) A (Builtin.«dict.fromkeys» ⟨[.type "dict", .str x t], []⟩) P E s := by
  unfold Builtin.«dict.fromkeys»
  refine wpAny_bind (wpAny_of_eq (a := true) fk_isType ?_)
  dsimp only
  refine KFB.if_not rfl ?_
  refine wpAny_bind (wpAny_of_eq (a := true) fk_sub ?_)
  refine KFB.if_not rfl ?_
  refine KFB.if_not rfl ?_
  refine wpAny_bind (wpAny_rule ?_)
  refine wpAny_bind (wpAny_pure ?_)
  refine wpAny_bind (fk_dict0 (knd := strKind prog w) fun hd => ?_)
  refine wpAny_holding ?_
  refine wpAny_bind (wpAny_typeOf (T := "str") rfl ?_)
  refine wpAny_bind (wpAny_typeOf hd.mapOf.typeIs ?_)
  refine KFB.if_not (by decide) ?_
  refine wpAny_bind (wpAny_typeOf hd.mapOf.typeIs ?_)
  refine KFB.if_not (by decide) ?_
  refine wpAny_bind (wpAny_pyIter_ascii ha ?_)
  refine wpAny_pure (hR _ _ _ _ (fun b o e => Heap.get?_push_of_some _ (Heap.get?_push_of_some _ e)) ?_ ?_ ?_ (hd.push _) ⟨_, Heap.get?_push_size _ rfl, rfl, rfl⟩)
  · rw [Heap.size_push]; exact Nat.ne_of_lt (Nat.lt_succ_self _)
  · exact Nat.le_refl _
  · exact get_ge (by rw [Heap.size_push]; exact Nat.le_succ _)
def fbound : Obj := { cls := .type "builtin_function_or_method", data := .fields #[.builtin "dict.fromkeys", .type "dict"] }
def FbAt (z : Addr) (h : Heap) : Prop := h.get? z = some fbound
theorem fk_quiet {as : Args} : (Code.builtin "dict.fromkeys" as).quiet = true := Code.quiet_builtin _ (by decide +kernel)
theorem fk_check {x : Str} {t : Tok} : checkBoundCall "dict.fromkeys" ⟨[.type "dict", .str x t], []⟩ = pure () := by first | kernel_rfl | rfl
theorem fk_call {z : Addr} {x : Str} {t : Tok} {Q : Value → Shared → Prop} (ho : s.heap.get? z = some fbound) (hh : A.handled = none) (hl : x.cps.size ≤ 100) (ha : x.cps.all (· < 128) = true)
    (h : ∀ D h' tk kvs, Kp s.heap h' → s.heap.objs.size ≤ D → h'.DictOf (strKind prog w) D kvs → FK x.cps.toList kvs → Q (.ref D) { s with heap := h', toks := tk }) : wpAny (model prog w) A (call (.ref z) [.str x t]) Q E s := by
  refine wpAny_call (codeAny_of_tree ?_)
  show wpAny _ A.in1 (callAny (.ref z) ⟨[.str x t], []⟩) _ _ s
  simp only [callAny]
  refine wpAny_bind (wpAny_load ho ?_)
  simp only [fbound, show (Value.type "builtin_function_or_method" == Value.type "method" || Value.type "builtin_function_or_method" == Value.type "builtin_function_or_method" || Value.type "builtin_function_or_method" == Value.type "method-wrapper") = true by decide, if_true]
  refine KFB.if_so (by decide) ?_
  refine wpAny_bind (wpAny_of_eq (a := ()) fk_check ?_)
  refine wpAny_bind (wpAny_pure (wpAny_pure ?_))
  refine ⟨fk_quiet, codeAny_builtin fk_entry ?_⟩
  refine fk_code (by exact hh) hl ha fun D I h' tk hk hDI hD hI hd hit => ?_
  refine ⟨plainId_quiet fk_loop_plain _, fk_loop (s := s) hh hDI hl s.heap (get_ge hD) hI (fun h2 tk2 kvs k2 d2 f2 => h D h2 tk2 kvs k2 hD d2 f2) x.cps.size 0 [] h' tk (by omega) hk hd hit ⟨by simp, by simp, by simp⟩⟩
section
variable {h₀ : Heap} {L : Addr} {m : Str → Option Value} {news : List (Addr × Obj)} {K : Frag} {M : Model}
theorem fk_slot_get : Slot "classmethod_descriptor" "__get__" "classmethod_descriptor.__get__" := KFB.slot_get
theorem fk_owner : (kfb_private% "ownerAndName") "dict.fromkeys" = ("dict", "fromkeys") := by first | decide +kernel | kernel_rfl
theorem fk_type : typeOf (.builtin "dict.fromkeys") = pure (.type "classmethod_descriptor") := by show builtinType _ = _; rw [builtinType_eq_fast]; kernel_rfl
theorem fk_run_get {P : Fin → Shared → Prop} (h : P (.done (.ret (.ref s.heap.objs.size))) { s with heap := s.heap.push fbound }) :
    wpAny M A (Builtin.«classmethod_descriptor.__get__» ⟨[.builtin "dict.fromkeys", .none, .type "dict"], []⟩) P E s := by
  unfold Builtin.«classmethod_descriptor.__get__»
  refine wpAny_bind (wpAny_of_eq (a := (.builtin "dict.fromkeys", none, some (.type "dict"))) (by first | rfl | kernel_rfl) ?_)
  simp only [fk_owner]
  refine wpAny_bind (wpAny_of_eq (a := .type "dict") rfl ?_)
  refine wpAny_bind (wpAny_of_eq (a := true) fk_isType ?_)
  refine KFB.if_not rfl ?_
  refine wpAny_bind (wpAny_of_eq (a := true) fk_sub ?_)
  refine KFB.if_not rfl ?_
  exact wpAny_bind (wpAny_newObj_type (wpAny_pure h))
theorem fk_getm {pl : Sem Bool} {Q : Value × List Value → Shared → Prop} (F : Fr h₀ L s.heap m) (N : News h₀ L s.heap news) (X₀ : K.In h₀)
    (e : findCls K (.type "dict") (.type "type") (Str.ofString "fromkeys") = some (.get (.builtin "classmethod_descriptor.__get__") (.builtin "dict.fromkeys") .none (.type "dict")))
    (h : ∀ x h', Fr h₀ L h' m → News h₀ L h' ((x, fbound) :: news) → (∀ p ∈ news, p.1 < x) → Q (.ref x, []) { s with heap := h', toks := s.toks + 1 }) :
    wpAny (model prog w) A (getMethod (.type "dict") (Str.ofString "fromkeys") pl) Q E s := by
  have X := X₀.keeps F.keep
  have hstub : opaqueClassAbove (.type "dict") = pure none := by unfold opaqueClassAbove; dsimp only; rw [show Manifest.isStub "dict" = false by decide +kernel]; rfl
  have ht : typeOf (.type "dict") = pure (.type "type") := by first | rfl | kernel_rfl
  have L0 : Looks (model prog w) s.heap (typeOf (.type "dict")) (.type "type") := Looks.of_pure ht
  have hg : findIn K (.type "type") "__getattribute__" = some (some (.builtin "type.__getattribute__")) := type_tga
  unfold getMethod specialOf
  refine wpAny_bind (wpAny_bind (L0.here ((looks_findIn X hg).here ?_)))
  dsimp only
  rw [if_pos canon_tga]
  refine wpAny_bind (wpAny_mono (Q := fun v => Q (v, [])) (E := E) ?_ (fun _ _ z => wpAny_pure z) fun _ _ z => z)
  have LO : Looks (model prog w) s.heap (opaqueClassAbove (.type "dict")) none := Looks.of_pure hstub
  refine cls_open X LO L0 hg (looks_hook X (r := none) (by rfl)) (by show subIn K _ _ = _; rfl) e ?_
  show wpAny _ _ (holding [.builtin "dict.fromkeys"] (call (.builtin "classmethod_descriptor.__get__") [.builtin "dict.fromkeys", .none, .type "dict"]) >>= fun v => ret v) _ _ _
  refine wpAny_bind (wpAny_holding (wpAny_call_entry KFB.slot_get fk_type KFB.entry_get (fk_run_get ⟨_, rfl, wpAny_pure (wpAny_pure (h _ _ (F.push _) (News.push F N _) fun p hp => Heap.lt_size (N p hp).1))⟩) (KFB.args_get _ _ _)))
theorem fk_callWith_f {pos : Pos} {u : Addr} {first : List Value} {args : List (Bool × Sem Value)} {Q : Value → Shared → Prop} (hplain : args.any (·.1) = false)
    (h : wpAny M A (evalArgs (.ref u) true args []) (fun x s₁ => FbAt u s₁.heap ∧ wpAny M A (call (.ref u) (first ++ x.pos) x.kw) Q E s₁) E s) : wpAny M A (callWith pos (.ref u) first args []) Q E s := by
  unfold callWith
  refine wpAny_bind (wpAny_holding (wpAny_mono h (fun x s₁ h₁ => wpAny_bind (wpAny_standAt ?_)) fun _ _ x => x))
  obtain ⟨ho, hcall⟩ := h₁
  unfold FbAt at ho
  simp only [hplain, List.any_nil, Bool.or_false]
  refine wpAny_bind (m := keeperOf (.ref u)) ?_
  unfold keeperOf
  refine wpAny_bind (wpAny_load ho ?_)
  simp only [fbound, show (Value.type "builtin_function_or_method" != Value.type "method") = true by decide, show (Value.type "builtin_function_or_method" == Value.type "builtin_function_or_method" || Value.type "builtin_function_or_method" == Value.type "method-wrapper") = true by decide, if_true]
  refine wpAny_pure ?_
  exact wpAny_bind (wpAny_mono hcall (fun r s₂ hr => wpAny_bind (wpAny_holding (wpAny_point (wpAny_pure hr)))) fun _ _ x => x)
theorem fk_callWith {pos : Pos} {u : Addr} {first : List Value} {env : Env} {e : Expr} {rest : List Expr} {Q : Value → Shared → Prop} (_N : News h₀ L s.heap news) (_hm : (u, fbound) ∈ news)
    (h : wpAny M A (spliced (backTo pos (starEach (e :: rest) env))) (fun vs s₁ => FbAt u s₁.heap ∧ wpAny M A (call (.ref u) (first ++ vs)) Q E s₁) E s)
    (he : starEach (e :: rest) env = (false, eval e env) :: starEach rest env := by rfl) (hplain : (backTo pos (starEach rest env)).any (·.1) = false := by rfl) :
    wpAny M A (callWith pos (.ref u) first (backTo pos (starEach (e :: rest) env)) []) Q E s := by
  rw [he] at h ⊢
  refine fk_callWith_f (by show (false || (backTo pos (starEach rest env)).any (·.1)) = false; rw [hplain]; rfl) ?_
  exact evalArgs_plain h
end
end
/-! the table of maketrans -/
def IK (l : List Nat) (kvs : List (Int × Value)) : Prop := (∀ p ∈ kvs, p.2 = .none ∧ ∃ c ∈ l, p.1 = (c : Int)) ∧ (∀ c ∈ l, ∃ p ∈ kvs, p.1 = (c : Int)) ∧ kvs.length ≤ l.length
theorem IK.step {l : List Nat} {kvs : List (Int × Value)} {c : Nat} (h : IK l kvs) : IK (l ++ [c]) (stored kvs (c : Int) .none) := by
  unfold stored
  obtain ⟨h1, h2, h3⟩ := h
  split
  · rename_i ha
    refine ⟨?_, ?_, by simp; omega⟩
    · intro p hp
      obtain ⟨q, hq, rfl⟩ := List.mem_map.mp hp
      obtain ⟨a, c', hc', b⟩ := h1 q hq
      split
      · exact ⟨rfl, c', List.mem_append_left _ hc', b⟩
      · exact ⟨a, c', List.mem_append_left _ hc', b⟩
    · intro c' hc'
      rcases List.mem_append.mp hc' with h | h
      · obtain ⟨p, hp, e⟩ := h2 c' h
        refine ⟨_, List.mem_map.mpr ⟨p, hp, rfl⟩, ?_⟩
        split <;> exact e
      · rw [List.mem_singleton.mp h]
        obtain ⟨p, hp, e⟩ := List.any_eq_true.mp ha
        refine ⟨_, List.mem_map.mpr ⟨p, hp, rfl⟩, ?_⟩
        have := of_decide_eq_true e
        split <;> exact this
  · refine ⟨?_, ?_, by simp; omega⟩
    · intro p hp
      rcases List.mem_append.mp hp with h | h
      · obtain ⟨a, c', hc', b⟩ := h1 p h
        exact ⟨a, c', List.mem_append_left _ hc', b⟩
      · rw [List.mem_singleton.mp h]
        exact ⟨rfl, c, by simp, rfl⟩
    · intro c' hc'
      rcases List.mem_append.mp hc' with h | h
      · obtain ⟨p, hp, e⟩ := h2 c' h
        exact ⟨p, List.mem_append_left _ hp, e⟩
      · rw [List.mem_singleton.mp h]
        exact ⟨_, List.mem_append_right _ (.head _), rfl⟩
theorem IK.at {l : List Nat} {kvs : List (Int × Value)} (h : IK l kvs) (c : Nat) : valueAt kvs (c : Int) = if l.contains c then some .none else none := by
  obtain ⟨h1, h2, _⟩ := h
  unfold valueAt
  cases hf : kvs.find? (fun kv => kv.1 = (c : Int)) with
  | none =>
    have : l.contains c = false := by
      cases hc : l.contains c with
      | false => rfl
      | true =>
        obtain ⟨p, hp, e⟩ := h2 c (by simpa using hc)
        have := List.find?_eq_none.mp hf p hp
        simp [e] at this
    rw [this]; rfl
  | some p =>
    have hp := List.mem_of_find?_eq_some hf
    have he := List.find?_some hf
    obtain ⟨a, c', hc', e⟩ := h1 p hp
    have : c' = c := by
      have := of_decide_eq_true he
      omega
    subst this
    have : l.contains c' = true := by simpa using hc'
    rw [this, if_pos rfl]
    simp [a]
section
variable {w : World} {A : Around} {E : Value → Shared → Prop} {s : Shared}
inductive MtI (s : Shared) (w : World) (l : List Nat) (kvs : List (Str × Value)) (rest : List DictEntry) (s' : Shared) : Prop where
  | mk (h' : Heap) (tk : Nat) (ik : List (Int × Value)) (ks : List Nat) (kr : List (Str × Value)) (e : s' = { s with heap := h', toks := tk }) (a1 : Kp s.heap h') (a2 : h'.DictOf (intKind prog w) s.heap.objs.size ik) (a3 : IK ks ik) (a4 : Pairs (strKind prog w) rest kr) (a5 : ∀ p ∈ kr, p ∈ kvs) (a6 : ∀ c ∈ ks, c ∈ l) (a7 : ∀ c ∈ l, c ∈ ks ∨ ∃ p ∈ kr, p.1 = ⟨#[c]⟩) (a8 : ks.length + kr.length ≤ 100)
theorem mt_code {D : Addr} {kvs : List (Str × Value)} {l : List Nat} {P : Fin → Shared → Prop} (hd : s.heap.DictOf (strKind prog w) D kvs) (hf : FK l kvs) (hl : l.length ≤ 100) (hsys : (D == sysModules) = false)
  (hR : ∀ T h' tk ik, Kp s.heap h' → s.heap.objs.size ≤ T → h'.DictOf (intKind prog w) T ik → (∀ c : Nat, valueAt ik (c : Int) = if l.contains c then some .none else none) → P (.done (.ret (.ref T))) { s with heap := h', toks := tk }) :
  wpAny (model prog w) A (Builtin.«str.maketrans» ⟨[.ref D], []⟩) P E s := by
  obtain ⟨o, es, ep, ho, hex, hdat, hko, hpairs, hnd⟩ := id hd
  unfold Builtin.«str.maketrans»
  refine wpAny_bind (wpAny_of_eq (a := ()) rfl ?_)
  refine wpAny_bind (wpAny_of_eq (a := ()) rfl ?_)
  dsimp only
  refine wpAny_bind (wpAny_of_eq (a := none) rfl ?_)
  refine wpAny_bind (wpAny_of_eq (a := none) rfl ?_)
  refine wpAny_bind (m := newDict) ?_
  unfold newDict
  refine wpAny_newObj_type ?_
  dsimp only
  have hT : s.heap.get? s.heap.objs.size = none := get_ge (Nat.le_refl _)
  have hTD : s.heap.objs.size ≠ D := fun e => by rw [← e, hT] at ho; cases ho
  have ho1 := Heap.get?_push_of_some ({ cls := .type "dict", data := .dict #[] } : Obj) ho
  have hn1 : (s.heap.push { cls := .type "dict", data := .dict #[] }).DictOf (intKind prog w) s.heap.objs.size [] := Heap.DictOf.new s.heap
  have hty : ∀ s' : Shared, s'.heap.get? D = some o → s'.TypeIs (.ref D) "dict" := fun s' e => ⟨o, e, hex.1⟩
  refine wpAny_bind (wpAny_holding ?_)
  refine wpAny_bind (wpAny_typeOf (hty _ ho1) ?_)
  refine wpAny_bind (wpAny_of_eq (a := ()) (by first | rfl | kernel_rfl) ?_)
  refine wpAny_bind (wpAny_typeOf (hty _ ho1) ?_)
  refine KFB.if_not (by decide) ?_
  refine wpAny_bind (wpAny_of_eq (a := ()) (by unfold notTheModulesDict; rw [hsys]; rfl) ?_)
  refine wpAny_bind (wpAny_dictEntries ho1 hdat ?_)
  refine wpAny_bind (MeetsSeq2.wpAny_forIn_array _ (fun rest _ s' => MtI s w l kvs rest s') _ ?turn ?fin _ _ ?init)
  case init =>
    refine ⟨_, s.toks, [], [], kvs, rfl, fun b o e => Heap.get?_push_of_some _ e, hn1, ⟨by simp, by simp, by simp⟩, hpairs, fun p hp => hp, by simp, fun c hc => .inr (hf.2.1 c hc), ?_⟩
    have := hf.2.2
    simp; omega
  case fin =>
    rintro b s' ⟨h', tk, ik, ks, kr, rfl, hk, hdi, hik, hpr, hsub, h1, h2, _⟩
    cases hpr
    refine wpAny_pure (wpAny_pure ?_)
    refine hR _ h' tk ik hk (Nat.le_refl _) hdi fun c => ?_
    rw [hik.at]
    have e : ks.contains c = l.contains c := by
      rw [Bool.eq_iff_iff, List.contains_iff_mem, List.contains_iff_mem]
      refine ⟨fun h => h1 c h, fun h => ?_⟩
      rcases h2 c h with h | ⟨p, hp, _⟩
      · exact h
      · cases hp
    rw [e]
  case turn =>
    rintro x rest b s' ⟨h', tk, ik, ks, kr, rfl, hk, hdi, hik, hpr, hsub, h1, h2, h3⟩
    refine post_gen ?_
    intro Qv hQv
    cases hpr with
    | @cons e kv es kvs' he hv hr =>
    obtain ⟨hv2, c, hc, hk1⟩ := hf.1 kv (hsub kv (.head _))
    rw [hk1] at he
    obtain ⟨u, hu⟩ := Value.isStrOf_shape he
    rw [hu, hv, hv2]
    refine wpAny_bind (wpAny_of_eq (a := some ⟨#[c]⟩) rfl ?_)
    dsimp only
    refine wpAny_bind (wpAny_mkInt ?_)
    refine wpAny_bind (wpAny_dictSet_pairs (knd := intKind prog w) (k := (c : Int)) (intKind_is _ _ _ _) hdi (fun h2' hd2 hs2 => ?_) ?_)
    · refine wpAny_pure (hQv _ _ ?_)
      refine ⟨h2', _, stored ik (c : Int) .none, ks ++ [c], kvs', rfl, hk.but hs2 hT, hd2, hik.step, hr, fun p hp => hsub p (.tail _ hp), ?_, ?_, ?_⟩
      · intro a ha
        rcases List.mem_append.mp ha with h | h
        · exact h1 a h
        · rw [List.mem_singleton.mp h]; exact hc
      · intro a ha
        rcases h2 a ha with h | ⟨p, hp, e⟩
        · exact .inl (List.mem_append_left _ h)
        · rcases List.mem_cons.mp hp with rfl | hp
          · rw [hk1] at e
            injection e with e
            injection e with e
            injection e with e
            exact .inl (by rw [e]; simp)
          · exact .inr ⟨p, hp, e⟩
      · simp at h3 ⊢; omega
    · have := hik.2.2
      have hz : sizeLine ≥ 1000 := by decide +kernel
      omega
theorem tl_sub : isSubtype (.type "KeyError") (.type "LookupError") = pure true := by rw [isSubtype_type]; kernel_rfl
theorem mapOf_kp {h h' : Heap} {T : Addr} {f : Int → Option Value} (hm : h.MapOf (intKind prog w) T f) (hk : Kp h h') : h'.MapOf (intKind prog w) T f :=
  let ⟨o, es, ep, ho, r⟩ := hm; ⟨o, es, ep, hk _ _ ho, r⟩
theorem tl_any {T : Addr} {c : Nat} {f : Int → Option Value} {b : Bool} {Q : Builtin.Str.Mapped → Shared → Prop} (hh : A.handled = none) (hsys : (T == sysModules) = false) (hm : s.heap.MapOf (intKind prog w) T f) (hf : f (c : Int) = if b then some .none else none)
    (h : ∀ h' tk, Kp s.heap h' → Q (if b then .drop else .keep) { s with heap := h', toks := tk }) : wpAny (model prog w) A (Builtin.Str.tableLookup (.ref T) c) Q E s := by
  unfold Builtin.Str.tableLookup
  refine wpAny_bind (wpAny_attempt (wpAny_bind (wpAny_mkInt ?_)))
  cases b with
  | true =>
    refine wpAny_getItem_of (knd := intKind prog w) (k := (c : Int)) (intKind_is _ _ _ _) hm hf ?_
    exact wpAny_pure (h _ _ fun _ _ e => e)
  | false =>
    refine wpAny_getItem_missing_of (knd := intKind prog w) (k := (c : Int)) (intKind_is _ _ _ _) hsys hh hm hf fun h' e hx => ?_
    dsimp only
    refine wpAny_bind (wpAny_isInstance (T := "KeyError") ?_ tl_sub ?_)
    · obtain ⟨o, _, ho, hc, _⟩ := hx.there
      exact ⟨o, ho, hc⟩
    · refine KFB.if_so rfl ?_
      exact wpAny_bind (wpAny_rule (wpAny_pure (h _ _ hx.keeps)))
theorem tr_short {n : Nat} (h : n ≤ 1000) : Builtin.Str.tooLong n = false := by
  have hz : sizeLine ≥ 1000 := by decide +kernel
  unfold Builtin.Str.tooLong
  simp
  omega
theorem tr_size {l : List Nat} {p : Nat → Bool} (h : l.length ≤ 1000) : (⟨(l.filter p).toArray⟩ : Str).length ≤ sizeLine := by
  have hz : sizeLine ≥ 1000 := by decide +kernel
  have := List.length_filter_le p l
  simp only [Str.length, List.size_toArray]
  omega
theorem tr_fold : ∀ (l : List Nat) (a : Array Nat), (l.map fun c => (⟨#[c]⟩ : Str)).foldl (fun acc p => acc ++ p.cps) a = a ++ l.toArray
  | [], a => by simp
  | c :: r, a => by
    rw [List.map_cons, List.foldl_cons, tr_fold r]
    simp
inductive TrI (s : Shared) (x l rest : List Nat) (b : List Str × Nat × Bool × List (Nat × Option Nat) × Bool) (s' : Shared) : Prop where
  | mk (h' : Heap) (tk : Nat) (done : List Nat) (e : s' = { s with heap := h', toks := tk }) (k : Kp s.heap h') (ex : x = done ++ rest) (e1 : b.1 = (done.filter fun c => !l.contains c).reverse.map (fun c => (⟨#[c]⟩ : Str))) (e2 : b.2.1 ≤ done.length) (e3 : ∀ p ∈ b.2.2.2.1, p.2 = if l.contains p.1 then none else some p.1)
theorem tr_code {x : List Nat} {t : Tok} {T : Addr} {f : Int → Option Value} {l : List Nat} {P : Fin → Shared → Prop} (hh : A.handled = none) (hsys : (T == sysModules) = false) (hm : s.heap.MapOf (intKind prog w) T f) (hf : ∀ c : Nat, f (c : Int) = if l.contains c then some .none else none)
    (h0 : x ≠ []) (hx : x.length ≤ 1000)
    (hR : ∀ h' tk t', Kp s.heap h' → P (.done (.ret (.str (S (x.filter fun c => !l.contains c)) t'))) { s with heap := h', toks := tk }) :
  wpAny (model prog w) A (Builtin.«str.translate» ⟨[.str (S x) t, .ref T], []⟩) P E s := by
  unfold Builtin.«str.translate»
  refine wpAny_bind (wpAny_of_eq (a := (.str (S x) t, S x, .ref T)) (by first | rfl | kernel_rfl) ?_)
  dsimp only
  refine KFB.if_not (by cases x with | nil => exact absurd rfl h0 | cons a r => simp [S, Str.length]) ?_
  refine wpAny_bind (MeetsSeq2.wpAny_forIn_array _ (TrI s x l) _ ?turn ?fin _ _ ?init)
  case init => exact ⟨s.heap, s.toks, [], rfl, fun _ _ e => e, rfl, rfl, Nat.le_refl _, by simp⟩
  case fin =>
    rintro ⟨pieces, total, fast, known, ad⟩ s' ⟨h', tk, done, rfl, hk, hx', hp, ht, _⟩
    rw [List.append_nil] at hx'
    subst hx'
    dsimp only at hp ht ⊢
    refine KFB.if_not (tr_short (by omega)) ?_
    have e : pieces.reverse.foldl (fun acc p => acc ++ p.cps) #[] = (x.filter fun c => !l.contains c).toArray := by
      rw [hp, ← List.map_reverse, List.reverse_reverse, tr_fold]
      simp
    rw [e]
    exact wpAny_bind (wpAny_mkStr (wpAny_pure (hR _ _ _ hk)) (tr_size hx))
  case turn =>
    rintro c rest ⟨pieces, total, fast, known, ad⟩ s' ⟨h', tk, done, rfl, hk, hx', hp, ht, hkn⟩
    dsimp only at hp ht hkn ⊢
    refine post_gen ?_
    intro Qv hQv
    have hlen : done.length + rest.length + 1 ≤ 1000 := by have := congrArg List.length hx'; simp at this; omega
    refine KFB.if_not (tr_short (by omega)) ?_
    have push : ∀ h2 tk2 f2 k2 a2, l.contains c = false → Kp s.heap h2 → (∀ p ∈ k2, p.2 = if l.contains p.1 then none else some p.1) →
        TrI s x l rest (⟨#[c]⟩ :: pieces, total + 1, f2, k2, a2) { s with heap := h2, toks := tk2 } := by
      intro h2 tk2 f2 k2 a2 hc hk2 hkn2
      refine ⟨h2, tk2, done ++ [c], rfl, hk2, by rw [hx']; simp, ?_, by simp; omega, hkn2⟩
      have : (!l.contains c) = true := by rw [hc]; rfl
      simp only [List.filter_append, List.filter_cons, List.filter_nil, this, if_true, List.reverse_append, List.reverse_cons, List.reverse_nil, List.nil_append, List.map_append, List.map_cons, List.map_nil, List.cons_append, hp]
    have skip : ∀ h2 tk2 f2 k2 a2, l.contains c = true → Kp s.heap h2 → (∀ p ∈ k2, p.2 = if l.contains p.1 then none else some p.1) →
        TrI s x l rest (pieces, total, f2, k2, a2) { s with heap := h2, toks := tk2 } := by
      intro h2 tk2 f2 k2 a2 hc hk2 hkn2
      refine ⟨h2, tk2, done ++ [c], rfl, hk2, by rw [hx']; simp, ?_, by simp; omega, hkn2⟩
      have : (!l.contains c) = false := by rw [hc]; rfl
      simp only [List.filter_append, List.filter_cons, List.filter_nil, this, Bool.false_eq_true, if_false, List.append_nil, hp]
    have tl : ∀ (h2 : Heap) (tk2 : Nat) (Q : Builtin.Str.Mapped → Shared → Prop), Kp s.heap h2 → (∀ h3 tk3, Kp s.heap h3 → Q (if l.contains c then .drop else .keep) { s with heap := h3, toks := tk3 }) → wpAny (model prog w) A (Builtin.Str.tableLookup (.ref T) c) Q E { s with heap := h2, toks := tk2 } :=
      fun h2 tk2 Q hk2 hq => tl_any hh hsys (mapOf_kp hm hk2) (hf c) fun h3 tk3 hk3 => hq h3 tk3 fun b o e => hk3 b o (hk2 b o e)
    cases fast with
    | false =>
      refine KFB.if_not rfl ?_
      cases ad with
      | true =>
        refine KFB.if_so rfl ?_
        refine wpAny_bind (tl _ _ _ hk fun h3 tk3 hk3 => ?_)
        cases hc : l.contains c with
        | true =>
          simp only [if_true]
          exact wpAny_pure (hQv _ _ (skip _ _ _ _ _ hc hk3 hkn))
        | false =>
          simp only [Bool.false_eq_true, if_false]
          refine wpAny_bind (tl _ _ _ hk3 fun h4 tk4 hk4 => ?_)
          rw [hc]
          simp only [Bool.false_eq_true, if_false]
          exact wpAny_pure (hQv _ _ (push _ _ _ _ _ hc hk4 hkn))
      | false =>
        refine KFB.if_not rfl ?_
        refine wpAny_bind (tl _ _ _ hk fun h3 tk3 hk3 => ?_)
        cases hc : l.contains c with
        | true =>
          simp only [if_true]
          exact wpAny_pure (hQv _ _ (skip _ _ _ _ _ hc hk3 hkn))
        | false =>
          simp only [Bool.false_eq_true, if_false]
          exact wpAny_pure (hQv _ _ (push _ _ _ _ _ hc hk3 hkn))
    | true =>
      refine KFB.if_so rfl ?_
      cases hlk : known.lookup c with
      | some a =>
        have ha : a = if l.contains c then none else some c := by
          obtain ⟨l1, l2, e, _⟩ := List.lookup_eq_some_iff.mp hlk
          exact hkn (c, a) (by rw [e]; simp)
        dsimp only
        refine wpAny_bind (wpAny_pure ?_)
        cases hc : l.contains c with
        | true =>
          rw [hc, if_pos rfl] at ha
          subst ha
          exact wpAny_pure (hQv _ _ (skip _ _ _ _ _ hc hk hkn))
        | false =>
          rw [hc, if_neg (by simp)] at ha
          subst ha
          exact wpAny_pure (hQv _ _ (push _ _ _ _ _ hc hk hkn))
      | none =>
        dsimp only
        refine wpAny_bind (tl _ _ _ hk fun h3 tk3 hk3 => ?_)
        cases hc : l.contains c with
        | true =>
          simp only [if_true]
          refine wpAny_bind (wpAny_pure ?_)
          refine wpAny_pure (hQv _ _ (skip _ _ _ _ _ hc hk3 ?_))
          intro p hp
          rcases List.mem_cons.mp hp with rfl | hp
          · rw [hc, if_pos rfl]
          · exact hkn p hp
        | false =>
          simp only [Bool.false_eq_true, if_false]
          refine wpAny_bind (wpAny_pure ?_)
          refine wpAny_pure (hQv _ _ (push _ _ _ _ _ hc hk3 ?_))
          intro p hp
          rcases List.mem_cons.mp hp with rfl | hp
          · rw [hc, if_neg (by simp)]
          · exact hkn p hp
end
section
variable {w : World} {A : Around} {E : Value → Shared → Prop} {s : Shared} {h₀ : Heap} {L : Addr} {m : Str → Option Value} {news : List (Addr × Obj)}
theorem kp_news {h h' : Heap} (N : News h₀ L h news) (k : Kp h h') : News h₀ L h' news := fun p hp => ⟨k _ _ (N p hp).1, (N p hp).2⟩
theorem kp_new {h h' : Heap} {D : Addr} {o : Obj} (F : Fr h₀ L h m) (N : News h₀ L h news) (k : Kp h h') (hD : h.objs.size ≤ D) (ho : h'.get? D = some o) : News h₀ L h' ((D, o) :: news) := by
  have h1 : D ≠ L := fun e => absurd (Nat.lt_of_lt_of_le F.ns.lt hD) (by rw [e]; exact Nat.lt_irrefl _)
  have h2 : h₀.get? D = none := get_ge (Nat.le_trans F.above (Nat.le_trans (Nat.le_of_lt F.ns.lt) hD))
  intro p hp
  rcases List.mem_cons.mp hp with rfl | hp
  · exact ⟨ho, h1, h2⟩
  · exact kp_news N k p hp
theorem not_sys {h : Heap} {D : Addr} (F : Fr h₀ L h m) (hb : sysModules < h₀.objs.size) (hD : h.objs.size ≤ D) : (D == sysModules) = false := by
  have h1 : sysModules < D := Nat.lt_of_lt_of_le hb (Nat.le_trans F.above (Nat.le_trans (Nat.le_of_lt F.ns.lt) hD))
  exact beq_eq_false_iff_ne.mpr (Nat.ne_of_gt h1)
theorem fk_callN {z : Addr} {x : Str} {t : Tok} {Q : Value → Shared → Prop} (F : Fr h₀ L s.heap m) (N : News h₀ L s.heap news) (hm : (z, fbound) ∈ news) (hb : h₀.NoLimit) (hh : A.handled = none) (hl : x.cps.size ≤ 100) (ha : x.cps.all (· < 128) = true)
    (h : ∀ D o h' tk kvs, Fr h₀ L h' m → News h₀ L h' ((D, o) :: news) → (∀ p ∈ news, p.1 < D) → o.IsDictOf (strKind prog w) kvs ∧ FK x.cps.toList kvs ∧ (D == sysModules) = false → Q (.ref D) { s with heap := h', toks := tk }) : wpAny (model prog w) A (call (.ref z) [.str x t]) Q E s :=
  fk_call (N.get hm) hh hl ha fun D h' tk kvs hk hD hd hf => by
    obtain ⟨o, ho, hod⟩ := Heap.dictOf_iff.mp hd
    exact h D o h' tk kvs (F.keptAll hk) (kp_new F N hk hD ho) (fun p hp => Nat.lt_of_lt_of_le (Heap.lt_size (N p hp).1) hD) ⟨hod, hf, not_sys F (modules_low hb) hD⟩
theorem mt_entry : entryFor table "str.maketrans" = some Builtin.«str.maketrans» := entryFor_of_tree (by kernel_rfl)
theorem mt_check {D : Addr} : checkBuiltinCall "str.maketrans" ⟨[.ref D], []⟩ = pure () := by kernel_rfl
theorem mt_plain : plainId "str.maketrans" = true := by decide +kernel
theorem mt_callN {D : Addr} {o : Obj} {kvs : List (Str × Value)} {l : List Nat} {Q : Value → Shared → Prop} (F : Fr h₀ L s.heap m) (N : News h₀ L s.heap ((D, o) :: news)) (hb : h₀.NoLimit) (ho : o.IsDictOf (strKind prog w) kvs ∧ FK l kvs ∧ (D == sysModules) = false) (hl : l.length ≤ 100)
    (h : ∀ T o' h' tk ik, Fr h₀ L h' m → News h₀ L h' ((T, o') :: news) → (∀ p ∈ news, p.1 < T) → o'.IsDictOf (intKind prog w) ik ∧ (∀ c : Nat, valueAt ik (c : Int) = if l.contains c then some .none else none) ∧ (T == sysModules) = false → Q (.ref T) { s with heap := h', toks := tk }) : wpAny (model prog w) A (call (.builtin "str.maketrans") [.ref D]) Q E s := by
  have N2 : News h₀ L s.heap news := fun p hp => N p (.tail _ hp)
  refine wpAny_call (codeAny_call_builtin mt_plain mt_entry (wpAny_of_eq mt_check ?_))
  refine mt_code (Heap.dictOf_iff.mpr ⟨o, (N _ (.head _)).1, ho.1⟩) ho.2.1 hl ho.2.2 fun T h' tk ik hk hT hd hv => ?_
  obtain ⟨o', ho', hod⟩ := Heap.dictOf_iff.mp hd
  exact h T o' h' tk ik (F.keptAll hk) (kp_new F N2 hk hT ho') (fun p hp => Nat.lt_of_lt_of_le (Heap.lt_size (N2 p hp).1) hT) ⟨hod, hv, not_sys F (modules_low hb) hT⟩
theorem tr_entry : entryFor table "str.translate" = some Builtin.«str.translate» := entryFor_of_tree (by kernel_rfl)
theorem tr_check {x : Str} {t : Tok} {T : Addr} : checkBuiltinCall "str.translate" ⟨[.str x t, .ref T], []⟩ = pure () := by kernel_rfl
theorem tr_plain : plainId "str.translate" = true := by decide +kernel
theorem tr_callN {T : Addr} {o : Obj} {ik : List (Int × Value)} {l x : List Nat} {t : Tok} {Q : Value → Shared → Prop} (F : Fr h₀ L s.heap m) (N : News h₀ L s.heap ((T, o) :: news)) (ho : o.IsDictOf (intKind prog w) ik ∧ (∀ c : Nat, valueAt ik (c : Int) = if l.contains c then some .none else none) ∧ (T == sysModules) = false) (hh : A.handled = none) (h0 : x ≠ []) (hx : x.length ≤ 1000)
    (h : ∀ h' tk t', Fr h₀ L h' m → News h₀ L h' news → Q (.str (S (x.filter fun c => !l.contains c)) t') { s with heap := h', toks := tk }) : wpAny (model prog w) A (call (.builtin "str.translate") [.str (S x) t, .ref T]) Q E s := by
  have N2 : News h₀ L s.heap news := fun p hp => N p (.tail _ hp)
  have hd : s.heap.DictOf (intKind prog w) T ik := Heap.dictOf_iff.mpr ⟨o, (N _ (.head _)).1, ho.1⟩
  refine wpAny_call (codeAny_call_builtin tr_plain tr_entry (wpAny_of_eq tr_check ?_))
  exact tr_code hh ho.2.2 hd.mapOf ho.2.1 h0 hx fun h' tk t' hk => h h' tk t' (F.keptAll hk) (kp_news N2 hk)
end
end Mine

end
section
namespace Mine
section
variable {w : World} {A : Around} {E : Value → Shared → Prop} {s : Shared}
theorem mt_lookup : typeLookup (.type "str") (Str.ofString "maketrans") = pure (some (.builtin "str.maketrans")) := by rw [typeLookup_type, builtinLookup_eq_fast]; kernel_rfl
theorem mt_kind : builtinKind "str.maketrans" = some Manifest.AttrKind.staticMethod := by decide +kernel
theorem mt_noget : typeLookup (.type "builtin_function_or_method") "__get__" = pure none := by rw [typeLookup_type, builtinLookup_eq_fast]; kernel_rfl
theorem mt_getattr {x : Str} {t : Tok} {Q : Value → Shared → Prop} (h : ∀ tk, Q (.builtin "str.maketrans") { s with toks := tk }) :
    wpAny (model prog w) A (getAttr (.str x t) (Str.ofString "maketrans")) Q E s := by
  obtain ⟨hp, g, d, tk, os⟩ := s
  have hT : ∀ s' : Shared, s'.TypeIs (.str x t) "str" := fun _ => rfl
  have f3 := F.slot_str_getattribute.lookup
  have f4 := F.slot_str_getattribute.bind (.str x t)
  have f6 := mt_lookup
  unfold getAttr getAttrBy
  repeat (any_goals (first | assumption | ((with_reducible show wpAny _ _ (call (Value.builtin "object.__getattribute__") _ _) _ _ _); refine wpAny_call_entry F.slot_str_getattribute (hT _) F.entry_object_getattribute ?_ (F.args_object_getattribute_2 _ _); unfold Builtin.«object.__getattribute__») | wp_step))
  rw [mt_kind]
  have f7 := mt_noget
  dsimp only
  repeat (any_goals (first | assumption | wp_step))
  exact ⟨_, rfl, wpAny_of_eq rfl (h _)⟩
theorem mt_type : typeOf (.builtin "str.maketrans") = pure (.type "builtin_function_or_method") := by show builtinType _ = _; rw [builtinType_eq_fast]; kernel_rfl
theorem mt_getm {x : Str} {t : Tok} {pl : Sem Bool} {Q : Value × List Value → Shared → Prop} (h : ∀ tk, Q (.builtin "str.maketrans", []) { s with toks := tk }) :
    wpAny (model prog w) A (getMethod (.str x t) (Str.ofString "maketrans") pl) Q E s := by
  have hT : ∀ s' : Shared, s'.TypeIs (.str x t) "str" := fun _ => rfl
  have f3 := F.slot_str_getattribute.lookup
  have f5 := am_str_getattr_none
  have f6 := mt_lookup
  unfold getMethod
  with_reducible refine wpAny_bind ?_
  with_reducible refine wpAny_specialOf (hT s) f3 ?_
  dsimp only
  rw [if_neg (show ¬ ((Manifest.canonical "object.__getattribute__" != "object.__getattribute__") = true) by decide +kernel)]
  with_reducible refine wpAny_bind ?_
  with_reducible refine wpAny_specialOf (hT s) f5 ?_
  rw [if_neg (show ¬ ((none : Option Value).isSome = true) by simp)]
  with_reducible refine wpAny_bind ?_
  with_reducible refine wpAny_specialOf (hT s) f6 ?_
  dsimp only
  with_reducible refine wpAny_bind ?_
  rw [mt_type]
  with_reducible refine wpAny_pure ?_
  have hc : (Value.type "builtin_function_or_method" != Value.type "function" && Value.type "builtin_function_or_method" != Value.type "method_descriptor" && Value.type "builtin_function_or_method" != Value.type "wrapper_descriptor") = true := by kernel_rfl
  rw [if_pos hc]
  exact wpAny_bind (mt_getattr fun tk => wpAny_pure (h tk))
theorem tr_getm {x : Str} {t : Tok} {pl : Sem Bool} {Q : Value × List Value → Shared → Prop} (h : Q (.builtin "str.translate", [.str x t]) s) :
    wpAny (model prog w) A (getMethod (.str x t) (Str.ofString "translate") pl) Q E s := by
  refine' getMethod_builtin (T := "str") ?a ?b ?c ?d ?e ?f
  case a => exact typeIs_str _ _ _
  case b => exact F.plainAttrs_str
  case c => exact F.slot_str_translate
  case d => exact F.type_str_translate
  case e => intro _ e; cases e
  case f => exact h
end
end Mine

end
section
namespace Mine
theorem runs_toks {M : Model} {Γ : PySem.Ctx} {p : Pos} {t : Sem Fin} {fs : List Frame} {s s' : Shared} {e : End} (h : Runs M Γ p t fs s e s') : s.toks ≤ s'.toks := by
  induction h <;> (try simp only [Shared.setGen] at *) <;> first | exact Nat.le_refl _ | omega
theorem wakes_toks {M : Model} {Γ : PySem.Ctx} {p : Pos} {g : Nat} {r : Resume} {s s' : Shared} {res : GenResult} (h : Wakes M Γ p g r s res s') : s.toks ≤ s'.toks := by
  unfold Wakes at h
  split at h
  · exact h.elim
  · split at h
    · obtain ⟨e, s1, hr, _, _, rfl⟩ := h
      have := runs_toks hr
      exact this
    · rw [h.2]; exact Nat.le_refl _
    · rw [h.2]; exact Nat.le_refl _
  · obtain ⟨e, s1, hr, _, _, rfl⟩ := h
    have := runs_toks hr
    exact this
  · rw [h.2]; exact Nat.le_refl _
  · rw [h.2]; exact Nat.le_refl _
theorem wp_toks {α : Type} {M : Model} {Γ : PySem.Ctx} {Q : α → Pos → Shared → Prop} {E : Value → Pos → Shared → Prop} (t : Sem α) (p : Pos) (s : Shared) (n : Nat) (hn : n ≤ s.toks) (h : Sem.wp M Γ t Q E p s) : Sem.wp M Γ t (fun a p' s' => Q a p' s' ∧ n ≤ s'.toks) E p s := by
  revert h hn
  induction t generalizing p s with
  | pure x => exact fun hn h => ⟨h, hn⟩
  | raise v => exact fun _ h => h
  | unsupported | finish | yield | fork | await | register => exact fun _ h => h
  | rule _ k ih | «at» _ k ih | alloc _ k ih | loadIfAlive _ k ih | point _ k ih | ask k ih | os _ _ k ih | handled _ k ih | newGen _ k ih | stack k ih | thread k ih => exact fun hn h => ih _ _ _ (by exact hn) h
  | fresh k ih => exact fun hn h => ih _ _ _ (Nat.le_succ_of_le hn) h
  | load a _ k ih | genState a k ih => exact fun hn ⟨o, ho, h⟩ => ⟨o, ho, ih _ _ _ hn h⟩
  | update a _ f k ih | choose _ _ k ih => exact fun hn ⟨ha, h⟩ => ⟨ha, ih _ _ _ hn h⟩
  | call c h g l k ih => exact fun hn ⟨r, s', hr, h⟩ => ⟨r, s', hr, ih r _ _ (Nat.le_trans hn (runs_toks hr)) h⟩
  | resume g r l k ih => exact fun hn ⟨res, s', hw, h⟩ => ⟨res, s', hw, ih _ _ _ (Nat.le_trans hn (wakes_toks hw)) h⟩
/-- no token is told twice: what is drawn later is greater -/
theorem any_toks {α : Type} {M : Model} {A : Around} {t : Sem α} {Q : α → Shared → Prop} {E : Value → Shared → Prop} {s : Shared} (h : wpAny M A t (fun v s' => s.toks ≤ s'.toks → Q v s') E s) : wpAny M A t Q E s :=
  fun Γ p hΓ => Sem.wp_mono M Γ t (fun _ _ _ h => h.1 h.2) (fun _ _ _ h => h) p s (wp_toks t p s s.toks (Nat.le_refl _) (h Γ p hΓ))
end Mine

end
section
namespace Mine
def VP (g : Heap) (L : Addr) (m : Str → Option Value) (N0 : List (Addr × Obj)) (s : Shared) (R : Value → Nat → Prop) (v : Value) (s' : Shared) : Prop :=
  ∃ h tk, s' = { s with heap := h, toks := tk } ∧ Fr g L h m ∧ News g L h N0 ∧ R v tk
def SP (g : Heap) (L : Addr) (s : Shared) (R : (Str → Option Value) → List (Addr × Obj) → Nat → Prop) (s' : Shared) : Prop :=
  ∃ h tk m' l, s' = { s with heap := h, toks := tk } ∧ Fr g L h m' ∧ News g L h l ∧ R m' l tk
section
variable {w : World} {A : Around} {E : Value → Shared → Prop} {s : Shared} {g h : Heap} {L : Addr} {m : Str → Option Value} {N0 l : List (Addr × Obj)} {tk : Nat} {env : Env}
theorem vp_mk {R : Value → Nat → Prop} {v : Value} (F : Fr g L h m) (N : News g L h l) (hs : ∀ p ∈ N0, p ∈ l) (hR : R v tk) : VP g L m N0 s R v { s with heap := h, toks := tk } := ⟨h, tk, rfl, F, fun p hp => N p (hs p hp), hR⟩
theorem sp_mk {R : (Str → Option Value) → List (Addr × Obj) → Nat → Prop} {l' : List (Addr × Obj)} (F : Fr g L h m) (N : News g L h l) (hs : ∀ p ∈ l', p ∈ l) (hR : R m l' tk) : SP g L s R { s with heap := h, toks := tk } := ⟨h, tk, m, l', rfl, F, fun p hp => N p (hs p hp), hR⟩
/-- an expression, walked apart: what it gives, and that nothing else is lost -/
theorem st_mid (R : (Str → Option Value) → List (Addr × Obj) → Nat → Prop) {st : Stmt} {rest : List Stmt} {Q : Flow → Shared → Prop} (_ : Fr g L s.heap m) (h1 : wpAny (model prog w) A (exec st env) (fun f s' => match f with | .next => SP g L s R s' | f => Q f s') E s)
    (h2 : ∀ m' l h tk, R m' l tk → s.toks ≤ tk → Fr g L h m' → News g L h l → wpAny (model prog w) A (execs rest env) Q E { s with heap := h, toks := tk }) : wpAny (model prog w) A (execs (st :: rest) env) Q E s := by
  refine execs_mid (fun s' => SP g L s R s' ∧ s.toks ≤ s'.toks) ?_ ?_
  · refine any_toks (wpAny_mono h1 (fun f s' hh ht => ?_) fun _ _ x => x)
    cases f with
    | next => exact ⟨hh, ht⟩
    | _ => exact hh
  · rintro s' ⟨⟨h, tk, m', l, rfl, F', N', r⟩, ht⟩
    exact h2 m' l h tk r ht F' N'
end
def Has (m : Str → Option Value) (ps : List (Str × Value)) : Prop := ∀ p ∈ ps, m p.1 = some p.2
theorem kst_intro {g h : Heap} {L : Addr} {m : Str → Option Value} {ps : List (Str × Value)} (F : Fr g L h m) (hp : ∀ p ∈ ps, m p.1 = some p.2) : ∃ m', Fr g L h (kstB m' ps) := by
  refine ⟨m, ?_⟩
  have e : kstB m ps = m := by
    funext z
    exact kstB_eq hp fun _ => rfl
  rw [e]
  exact F
def Lw5 (g : Heap) (L : Addr) (s : Shared) (s' : Shared) : Prop :=
  ∃ h tk D vs nums nn m', s' = { s with heap := h, toks := tk } ∧ Fr g L h m' ∧ News g L h [(D, listOf (vs : List Value).toArray nn)] ∧ IntsAre vs nums ∧ nums ≠ [] ∧ nums.length ≤ 40 ∧ m' (Str.ofString "numbers") = some (.ref D)
end Mine

end
section
namespace Mine
def Lw5c (g : Heap) (L : Addr) (s : Shared) (ca : Addr) (co : Obj) (s' : Shared) : Prop :=
  ∃ h tk D vs nums nn m', s' = { s with heap := h, toks := tk } ∧ Fr g L h m' ∧ News g L h [(D, listOf (vs : List Value).toArray nn), (ca, co)] ∧ IntsAre vs nums ∧ nums ≠ [] ∧ nums.length ≤ 40 ∧ m' (Str.ofString "numbers") = some (.ref D) ∧ @Ne Nat ca D
theorem lw5c_mid {g h : Heap} {L D : Addr} {s : Shared} {tk nn : Nat} {vs : List Value} {nums : List Int} {m' : Str → Option Value} {ca : Addr} {co : Obj} {l : List (Addr × Obj)} (F : Fr g L h m') (N : News g L h l) (hi : IntsAre vs nums) (h1 : nums ≠ []) (h2 : nums.length ≤ 40)
  (h3 : m' (Str.ofString "numbers") = some (.ref D)) (hl : (D, listOf vs.toArray nn) ∈ l) (hc : (ca, co) ∈ l) (hne : @Ne Nat ca D) : Lw5c g L s ca co { s with heap := h, toks := tk } :=
  ⟨h, tk, D, vs, nums, nn, m', rfl, F, fun p hp => by
    rcases List.mem_cons.mp hp with rfl | hp
    · exact N _ hl
    · rw [List.mem_singleton.mp hp]; exact N _ hc, hi, h1, h2, h3, hne⟩
theorem lw5c_if {w : World} {A : Around} {E : Value → Shared → Prop} {env : Env} {st : Stmt} {rest : List Stmt} {Q : Flow → Shared → Prop} {g : Heap} {L : Addr} {s : Shared} {m : Str → Option Value} {a b : Addr × Obj} {ca : Addr} {co : Obj} (_ : Fr g L s.heap m) (_ : News g L s.heap [a, b, (ca, co)])
    (h1 : wpAny (model prog w) A (exec st env) (fun f s' => match f with | .next => Lw5c g L s ca co s' | f => Q f s') E s)
    (h2 : ∀ h tk D vs nums nn (m' : Str → Option Value), Fr g L h (fun y => if y = Str.ofString "numbers" then some (.ref D) else m' y) → News g L h [(D, listOf (vs : List Value).toArray nn), (ca, co)] → IntsAre vs nums → nums ≠ [] → nums.length ≤ 40 → @Ne Nat ca D →
      wpAny (model prog w) A (execs rest env) Q E { s with heap := h, toks := tk }) : wpAny (model prog w) A (execs (st :: rest) env) Q E s :=
  execs_mid (Lw5c g L s ca co) h1 (by
    rintro s' ⟨h, tk, D, vs, nums, nn, m', rfl, F', N', a1, a2, a3, d, d2⟩
    refine h2 h tk D vs nums nn m' ?_ N' a1 a2 a3 d2
    have ee : (fun y => if y = Str.ofString "numbers" then some (.ref D) else m' y) = m' := by
      funext y
      by_cases hy : y = Str.ofString "numbers"
      · rw [if_pos hy, hy, d]
      · rw [if_neg hy]
    rw [ee]
    exact F')
end Mine

end
section
namespace Mine
open PySem.Calls PyProof.Rows.LCg PyProof.Rows.LCt
theorem strs_addC {x : Str} {t : Tok} {ws : List Str} : ∀ {vs : List Value}, StrsAre vs ws → StrsAre (vs ++ [.str x t]) (ws ++ [x]) := by
  induction ws with
  | nil =>
    intro vs h
    cases h
    exact .cons _ _ .nil
  | cons w ws ih =>
    intro vs h
    cases h with
    | cons _ t r => exact .cons _ _ (ih r)
section
variable {w : World} {A : Around} {E : Value → Shared → Prop} {s : Shared} {h₀ : Heap} {L : Addr} {m : Str → Option Value} {env : Env}
/-- a text's iterator, whatever its signs -/
theorem iter_str {x : Str} {t : Tok} {Q : Value → Shared → Prop}
    (hQ : ∀ (o : Obj) (St : Nat → Heap → Prop), (∀ A' : Around, A'.handled = none → Walks prog w A' s.heap.objs.size [s.heap.objs.size] [s.heap.objs.size] x.cps.size (SignAt x) St) → (∀ i h, St i h → ∃ o, h.get? s.heap.objs.size = some o) → St 0 (s.heap.push o) →
      Q (.ref s.heap.objs.size) { s with heap := s.heap.push o }) : wpAny (model prog w) A (pyIter (.str x t)) Q E s := by
  cases ha : x.cps.all (· < 128) with
  | false => exact wpAny_pyIter_wide ha (hQ _ _ (fun A' hA => Walks.strWide hA _ x t) (fun i h st => let ⟨o, e, _⟩ := st; ⟨o, e⟩) ⟨_, Heap.get?_push_size _ rfl, rfl, rfl⟩)
  | true => exact wpAny_pyIter_ascii ha (hQ _ _ (fun A' hA => Walks.strAscii hA _ x t) (fun i h st => let ⟨o, e, _⟩ := st; ⟨o, e⟩) ⟨_, Heap.get?_push_size _ rfl, rfl, rfl⟩)
/-- where a comprehension over a text stands -/
def SrcS (w : World) (A : Around) (h₀ : Heap) (L : Addr) (m : Str → Option Value) (env : Env) (ct elt : Expr) (x : Str) (scope : Scope) (cl : List (Str × Addr)) (Fin : Shared → List Value → List (Addr × Obj) → Prop) (xv : Value) (s₁ : Shared) : Prop :=
  ∃ y t news, xv = .str y t ∧ A.handled = none ∧ Fr h₀ L s₁.heap m ∧ News h₀ L s₁.heap news ∧ y.cps.size ≤ sizeLine ∧
    ∀ s₂ : Shared, (∃ h, s₂ = { s₁ with heap := h }) → CompRestT prog w A h₀ L m env ct elt x scope cl s₂ (fun _ => True) (SignAt y) (Fin s₂) y.cps.size 0 [] news
theorem srcS {ct elt : Expr} {x : Str} {scope : Scope} {cl : List (Str × Addr)} {Fin : Shared → List Value → List (Addr × Obj) → Prop} {s₁ : Shared} {y : Str} {t : Tok} {news : List (Addr × Obj)} (hh : A.handled = none) (F : Fr h₀ L s₁.heap m) (N : News h₀ L s₁.heap news) (hz : y.cps.size ≤ sizeLine)
    (h : ∀ g, CompRestT prog w A h₀ L m env ct elt x scope cl { s₁ with heap := g } (fun _ => True) (SignAt y) (Fin { s₁ with heap := g }) y.cps.size 0 [] news) : SrcS w A h₀ L m env ct elt x scope cl Fin (.str y t) s₁ :=
  ⟨y, t, news, rfl, hh, F, N, hz, fun _ ⟨g, e⟩ => e ▸ h g⟩
/-- a filter over a text, as a value -/
theorem lc_str {ct elt iter : Expr} {x : Str} {px : Pos} {scope : Scope} {cl : List (Str × Addr)} {pos : Pos} {Q : Value → Shared → Prop} (_ : Fr h₀ L s.heap m)
    (hclos : closureFor scope env = pure cl) (hcell : ∀ y ∈ scope.names, y.2 ≠ .cell) (hkind : scope.kind = .function)
    (hnames : ∀ y ∈ scope.names, y.2 = .local → scope.names.lookup y.1 = some .local) (hx : scope.names.lookup x = some .local)
    (h : wpAny (model prog w) A (eval iter env) (SrcS w A h₀ L m env ct elt x scope cl (fun s₂ => FinE h₀ L m s₂ Q)) E s)
    (hs : ∀ x, foldedSetIterable iter env x = pure x := by intro _; rfl) :
    wpAny (model prog w) A (eval (.ListComp elt [⟨.Name x px, iter, [ct], 0⟩] scope pos) env) Q E s := by
  rw [eval_ListComp]
  refine wpAny_comprehension_free (use := none) rfl hs hclos hkind hnames (wpAny_mono h (fun xv s₁ h₁ => ?_) fun _ _ e => e)
  obtain ⟨y, t, news, rfl, hh, F, N, hz, R⟩ := h₁
  refine iter_str fun o St hW hI h0 => ?_
  have W := hW A hh
  have up : ∀ b p, s₁.heap.get? b = some p → (s₁.heap.push o).get? b = some p := fun b p e => Heap.get?_push_of_some _ e
  refine block_T W hz hI (fun i h h' p nw st e1 e2 _ _ _ => W.frame i h h' st fun b hb q e3 => ?_) hcell hkind hx h0 (fun b hb => ?_)
    (F.keeps up) (N.grown up) (Nat.ne_of_lt F.ns.lt) (next_is_new F) (fun p hp => Nat.ne_of_lt (Heap.lt_size (N p hp).1)) trivial (R _ ⟨_, rfl⟩) ?_
  · rw [List.mem_singleton.mp hb] at e3 ⊢
    rw [e2, ← e1, e3]
  · rw [List.mem_singleton.mp hb]
    show s₁.heap.objs.size < (s₁.heap.push _).objs.size
    rw [Heap.size_push]; exact Nat.lt_succ_self _
  · intro D C h tk m' ys news' F' N' o1 hn hC₀ hD₀ hCL hDL hCD offC fin
    refine ⟨m', hn, fun h'' hs'' => fin D h'' tk (F'.change hs'' hCL hC₀) (fun p hp => ?_) o1⟩
    refine ⟨hs''.extBut _ _ ?_ (N' p hp).1, (N' p hp).2⟩
    rcases List.mem_cons.mp hp with rfl | hp
    · exact Ne.symm hCD
    · exact offC p hp
/-- a filter over a text, stored -/
theorem lc_strA {ct elt iter : Expr} {x y : Str} {px py : Pos} {scope : Scope} {cl : List (Str × Addr)} {pos spos : Pos} {Q : Flow → Shared → Prop} (_ : Fr h₀ L s.heap m) (hLe : env.locals = L)
    (hsw : swapsWith (.ListComp elt [⟨.Name x px, iter, [ct], 0⟩] scope pos) (some (.Name y py)) spos.line env = pure true)
    (hclos : closureFor scope env = pure cl) (hcell : ∀ z ∈ scope.names, z.2 ≠ .cell) (hkind : scope.kind = .function)
    (hnames : ∀ z ∈ scope.names, z.2 = .local → scope.names.lookup z.1 = some .local) (hx : scope.names.lookup x = some .local)
    (hy : env.kindOf y = some .local) (hp : (env.scope.kind == .class || (env.scope.kind == .module && env.locals != env.globals)) = false)
    (h : wpAny (model prog w) A (eval iter env) (SrcS w A h₀ L m env ct elt x scope cl (fun s₂ => FinA h₀ L m s₂ y Q)) E s)
    (hs : ∀ x, foldedSetIterable iter env x = pure x := by intro _; rfl) :
    wpAny (model prog w) A (exec (.Assign [.Name y py] (.ListComp elt [⟨.Name x px, iter, [ct], 0⟩] scope pos) spos) env) Q E s := by
  subst hLe
  rw [exec_Assign_Name_used _ _ _ _ hsw]
  refine wpAny_bind (wpAny_standAt (wpAny_bind ?_))
  show wpAny _ A (do let _ ← comprehension (.ListComp elt [⟨.Name x px, iter, [ct], 0⟩] scope pos) scope env _ (newList []) false (eval iter env) (some (assign (.Name y py) env))) _ _ s
  refine wpAny_bind (wpAny_mono (wpAny_comprehension_free (use := some (assign (.Name y py) env)) (Q := fun _ s' => Q .next s') rfl hs hclos hkind hnames
    (wpAny_mono h (fun xv s₁ h₁ => ?_) fun _ _ e => e)) (fun _ s' hq => wpAny_pure (wpAny_pure hq)) fun _ _ e => e)
  obtain ⟨z, t, news, rfl, hh, F, N, hz, R⟩ := h₁
  refine iter_str fun o St hW hI h0 => ?_
  have W := hW A hh
  have up : ∀ b p, s₁.heap.get? b = some p → (s₁.heap.push o).get? b = some p := fun b p e => Heap.get?_push_of_some _ e
  refine block_T W hz hI (fun i h h' p nw st e1 e2 _ _ _ => W.frame i h h' st fun b hb q e3 => ?_) hcell hkind hx h0 (fun b hb => ?_)
    (F.keeps up) (N.grown up) (Nat.ne_of_lt F.ns.lt) (next_is_new F) (fun p hp => Nat.ne_of_lt (Heap.lt_size (N p hp).1)) trivial (R _ ⟨_, rfl⟩) ?_
  · rw [List.mem_singleton.mp hb] at e3 ⊢
    rw [e2, ← e1, e3]
  · rw [List.mem_singleton.mp hb]
    show s₁.heap.objs.size < (s₁.heap.push _).objs.size
    rw [Heap.size_push]; exact Nat.lt_succ_self _
  · intro D C h' tk m' ys news' F' N' o1 hn hC₀ hD₀ hCL hDL hCD offC fin
    show wpAny _ A (assign (.Name y py) env (.ref D)) _ _ _
    refine wpAny_assign_Name (wpAny_storeName_local hy F'.ns (fun h₂ hn₂ hs₂ => ?_) hp)
    have hL₀ : h₀.get? env.locals = none := Heap.get?_none_of_le F'.above
    have F₂ : Fr h₀ env.locals h₂ (fun z => if z = y then some (.ref D) else m z) := ⟨hn₂, fun b o e => hs₂.extBut b o (fun q => by rw [q, hL₀] at e; cases e) (F'.keep b o e), F'.above⟩
    refine ⟨m', hn.sameBut hs₂ hCL, fun h'' hs'' => fin D h'' _ (F₂.change hs'' hCL hC₀) (fun p hp => ?_) o1⟩
    have z : h₂.get? p.1 = some p.2 := hs₂.extBut _ _ (N' p hp).2.1 (N' p hp).1
    refine ⟨hs''.extBut _ _ ?_ z, (N' p hp).2⟩
    rcases List.mem_cons.mp hp with rfl | hp
    · exact Ne.symm hCD
    · exact offC p hp
/-- the turns of a filter over texts: what is kept is known -/
theorem flt_rest {ct elt : Expr} {x : Str} {scope : Scope} {cl : List (Str × Addr)} {S : List (Addr × Obj) → Prop} {P : Nat → Value → Prop} {Fin : List Value → List (Addr × Obj) → Prop} {news : List (Addr × Obj)} (xs : List Str) (f : Str → Bool) (hP : ∀ i v, P i v → ∃ y t, xs[i]? = some y ∧ v = .str y t)
    (turn : ∀ y t I oI C oC D m₂ ys h tk (E' : Value → Shared → Prop), y ∈ xs → NsObj oC m₂ → m₂ x = some (.str y t) → Fr h₀ L h m → News h₀ L h ((I, oI) :: (C, oC) :: (D, lst ys) :: news) → Off3 I C D news → ((@Ne Nat I C) ∧ (@Ne Nat I D) ∧ (@Ne Nat C D)) →
      wpAny (model prog w) A (isTrue ct (compEnvC scope cl C env) (eval ct (compEnvC scope cl C env))) (fun b s' => if b = true then wpAny (model prog w) A (eval elt (compEnvC scope cl C env)) (CompEnd h₀ L m { s with heap := h, toks := tk } I oI C oC D (lst ys) S (fun v news' => news' = news ∧ f y = true ∧ ∃ u, v = .str y u)) E' s'
        else CompEnd h₀ L m { s with heap := h, toks := tk } I oI C oC D (lst ys) S (fun _ news' => news' = news ∧ f y = false) Value.none s') E' { s with heap := h, toks := tk })
    (fin : ∀ ys, StrsAre ys (xs.filter f) → Fin ys news) : CompRestT prog w A h₀ L m env ct elt x scope cl s S P Fin xs.length 0 [] news := by
  have key : ∀ (j i : Nat) (ys : List Value), i + j = xs.length → StrsAre ys ((xs.take i).filter f) → CompRestT prog w A h₀ L m env ct elt x scope cl s S P Fin j i ys news := by
    intro j
    induction j with
    | zero =>
      intro i ys hi hy
      obtain rfl : i = xs.length := hi
      rw [List.take_length] at hy
      exact CompRestT.zero (fin ys hy)
    | succ j ih =>
      intro i ys hi hy
      refine CompRestT.succ ?_
      intro v I oI C oC D m₂ h tk E' hv hC hx F N off ne
      obtain ⟨y, t, e, rfl⟩ := hP i v hv
      have hs : (xs.take (i + 1)).filter f = (xs.take i).filter f ++ (if f y then [y] else []) := by
        rw [List.take_add_one, e, List.filter_append]
        cases hf : f y <;> simp [hf]
      refine wpAny_mono (turn y t I oI C oC D m₂ ys h tk E' (List.mem_of_getElem? e) hC hx F N off ne) (fun b s₂ hq => ?_) fun _ _ e => e
      cases b with
      | true =>
        simp only [if_true] at hq ⊢
        refine wpAny_mono hq (fun v s₃ hr => ?_) fun _ _ e => e
        obtain ⟨h', tk', nw, e2, F', N', off', hS, rfl, hf, u, rfl⟩ := hr
        refine ⟨h', tk', nw, e2, F', N', off', hS, ih (i + 1) _ (by omega) ?_⟩
        rw [hs, hf]
        exact strs_addC hy
      | false =>
        simp only [Bool.false_eq_true, if_false] at hq ⊢
        obtain ⟨h', tk', nw, e2, F', N', off', hS, rfl, hf⟩ := hq
        refine ⟨h', tk', nw, e2, F', N', off', hS, ih (i + 1) _ (by omega) ?_⟩
        rw [hs, hf]
        simpa using hy
  exact key xs.length 0 [] (by omega) .nil
end
end Mine

end
section
namespace Mine
open PySem.Calls PyProof.Rows.LCg PyProof.Rows.LCt
section
variable {w : World} {A : Around} {E : Value → Shared → Prop} {s : Shared} {h₀ : Heap} {L : Addr} {m : Str → Option Value} {env : Env}
/-- the loop of a filter whose target is a pair -/
theorem pt_loop {elt ct iter : Expr} {elts : List Expr} {k : Nat} {tp : Pos} {scope : Scope} {pos : Pos} {it acc : Value} {env : Env} {R : Result → Shared → Prop} (I : Nat → Shared → Prop)
    (turn : ∀ n s, I n s → wpAny (model prog w) A (pyNext it) (fun r s₁ => match r with
      | none => R (.ok .next) s₁
      | some v => wpAny (model prog w) A (letOwnedTupleGo (.Tuple elts k tp) it v) (fun _ s₂ => wpAny (model prog w) A (assign (.Tuple elts k tp) env v) (fun _ s₃ =>
          wpAny (model prog w) A (isTrue ct env (eval ct env)) (fun ok s₄ => if ok = true then wpAny (model prog w) A (eval elt env) (fun x s₅ =>
              wpAny (model prog w) A (call (.builtin "list.append") [acc, x]) (fun _ s₆ => ∃ j, j < n ∧ I j s₆) (notedBy (model prog w) A env fun e s' => R (.error e) s') s₅) (notedBy (model prog w) A env fun e s' => R (.error e) s') s₄
            else ∃ j, j < n ∧ I j s₄) (notedBy (model prog w) A env fun e s' => R (.error e) s') s₃)
          (notedBy (model prog w) A env fun e s' => R (.error e) s') s₂) (notedBy (model prog w) A env fun e s' => R (.error e) s') s₁) (notedBy (model prog w) A env fun e s' => R (.error e) s') s)
    (n : Nat) (h : I n s) : codeAny (model prog w) A (.compLoop (.ListComp elt [⟨.Tuple elts k tp, iter, [ct], 0⟩] scope pos) 0 it acc env) R s := by
  refine codeAny_loop rfl I (fun n s hI => ?_) n h
  show wpAny _ A ((compTurn (.ListComp elt [⟨.Tuple elts k tp, iter, [ct], 0⟩] scope pos) 0 it acc env).onRaise (fun x => do noteFrame x env; theTreesLotGoes x)) _ _ s
  refine wpAny_noted ?_
  rw [compTurn_list]
  refine wpAny_bind (wpAny_standAt (wpAny_bind (wpAny_mono (turn n s hI) (fun r s₁ h₁ => ?_) fun _ _ x => x)))
  match r, h₁ with
  | none, h₁ => exact wpAny_pure h₁
  | some v, h₁ =>
    refine wpAny_bind (wpAny_mono h₁ (fun _ s₂ h₂ => ?_) fun _ _ x => x)
    refine wpAny_bind (wpAny_mono h₂ (fun _ s₃ h₃ => ?_) fun _ _ x => x)
    refine wpAny_bind (wpAny_tests_one (wpAny_mono h₃ (fun ok s₄ h₄ => ?_) fun _ _ x => x))
    match ok, h₄ with
    | false, h₄ => exact wpAny_pure ⟨rfl, h₄⟩
    | true, h₄ => exact wpAny_bind (wpAny_bind (wpAny_mono h₄ (fun x s₅ h₅ => wpAny_bind (wpAny_mono h₅ (fun _ s₆ h₆ => wpAny_pure (wpAny_pure ⟨rfl, h₆⟩)) fun _ _ x => x)) fun _ _ x => x))
theorem get_ge1 {h : Heap} {a : Addr} (ha : h.objs.size ≤ a) : h.get? a = none := by
  cases e : h.get? a with
  | none => rfl
  | some o => exact absurd (Heap.lt_size e) (Nat.not_lt.mpr ha)
/-- a filter with a pair as target over an iterator e (upon it) that draws pairs; what is kept is told by Y -/
theorem pt_block {elt ct iter : Expr} {x x₂ : Str} {px px₂ tp : Pos} {k : Nat} {scope : Scope} {cl : List (Str × Addr)} {pos : Pos} {s₂ : Shared} {e it : Addr} {n : Nat} {P : Nat → Value → Value → Prop} {St : Nat → Heap → Prop} {Mid : Nat → Addr → Heap → Prop} {news : List (Addr × Obj)}
    {Y : Nat → List Value → Prop} {RR : Value → Addr → Result → Shared → Prop} (hh : A.handled = none)
    (W : WalksT prog w A e [e, it] [e, it] n (fun i vals => ∃ v₁ v₂, vals = #[v₁, v₂] ∧ P i v₁ v₂) St Mid) (hsz : n ≤ sizeLine) (hIo : ∀ i h, St i h → ∃ o o', h.get? e = some o ∧ h.get? it = some o')
    (hcell : ∀ y ∈ scope.names, y.2 ≠ .cell) (hkind : scope.kind = .function) (hx : scope.names.lookup x = some .local) (hx₂ : scope.names.lookup x₂ = some .local) (hxx : x ≠ x₂) (hst : St 0 s₂.heap)
    (F : Fr h₀ L s₂.heap m) (N : News h₀ L s₂.heap news) (he : L ≠ e ∧ h₀.get? e = none) (hi : L ≠ it ∧ h₀.get? it = none) (hei : e ≠ it) (off : ∀ p ∈ news, p.1 ≠ e ∧ p.1 ≠ it) (hY : Y 0 [])
    (turn : ∀ i v₁ v₂ ys oI oC oi C D m₂ h tk (E' : Value → Shared → Prop), i < n → P i v₁ v₂ → Y i ys → NsObj oC m₂ → m₂ x = some v₁ → m₂ x₂ = some v₂ → Fr h₀ L h m → News h₀ L h ((e, oI) :: (C, oC) :: (D, lst ys) :: (it, oi) :: news) → Off3 e C D ((it, oi) :: news) → ((@Ne Nat e C) ∧ (@Ne Nat e D) ∧ (@Ne Nat C D)) →
      wpAny (model prog w) A (isTrue ct (compEnvC scope cl C env) (eval ct (compEnvC scope cl C env))) (fun b s' => if b = true then wpAny (model prog w) A (eval elt (compEnvC scope cl C env)) (CompEnd h₀ L m { s₂ with heap := h, toks := tk } e oI C oC D (lst ys) (fun _ => True) (fun y news' => news' = (it, oi) :: news ∧ Y (i + 1) (ys ++ [y]))) E' s'
        else CompEnd h₀ L m { s₂ with heap := h, toks := tk } e oI C oC D (lst ys) (fun _ => True) (fun _ news' => news' = (it, oi) :: news ∧ Y (i + 1) ys) Value.none s') E' { s₂ with heap := h, toks := tk })
    (hRR : ∀ D C h tk m' ys, Fr h₀ L h m → News h₀ L h ((D, lst ys) :: news) → Off1 D news → h.Ns C m' → h₀.get? C = none → h₀.get? D = none → C ≠ L → D ≠ L → C ≠ D → (∀ p ∈ news, p.1 ≠ C) → Y n ys → RR (.ref D) C (.ok .next) { s₂ with heap := h, toks := tk }) :
    wpAny (model prog w) A (newList []) (fun acc s₃ => wpAny (model prog w) A (newFunctionEnv scope env.globals cl [] env.qual none .none (some env)) (fun cenv s₄ =>
      codeAny (model prog w) A (.compStart (.ListComp elt [⟨.Tuple [.Name x px, .Name x₂ px₂] k tp, iter, [ct], 0⟩] scope pos) 0 (.ref e) acc { cenv with scope := relabel scope env }) (RR acc cenv.locals) s₄) E s₃) E s₂ := by
  refine wpAny_newObj_type (wpAny_newFunctionEnv hcell (by intro y hy; simp at hy) (fun h₁ hns₁ hsb₁ => ?_) hkind)
  dsimp only at hns₁ hsb₁ ⊢
  generalize hH2 : s₂.heap.push { cls := .type "list", dict := none, data := .seq ([] : List Value).toArray } = H2 at hns₁ hsb₁ ⊢
  have hC : H2.objs.size = s₂.heap.objs.size + 1 := by rw [← hH2, Heap.size_push]
  have lt_of : ∀ {b o}, s₂.heap.get? b = some o → b < s₂.heap.objs.size := fun e => Heap.lt_size e
  have far : ∀ {b : Addr}, b < s₂.heap.objs.size → b ≠ H2.objs.size ∧ b ≠ s₂.heap.objs.size := fun {b} hb => ⟨by rw [hC]; exact Nat.ne_of_lt (Nat.lt_succ_of_lt hb), Nat.ne_of_lt hb⟩
  have hDC : s₂.heap.objs.size ≠ H2.objs.size := by rw [hC]; exact Nat.ne_of_lt (Nat.lt_succ_self _)
  have old : ∀ b o, s₂.heap.get? b = some o → h₁.get? b = some o := fun b o q => hsb₁.extBut b o (far (lt_of q)).1 (Heap.get?_push_of_some _ (hH2 ▸ Heap.get?_push_of_some _ q))
  have hacc : h₁.get? s₂.heap.objs.size = some (lst []) := hsb₁.extBut _ _ hDC (Heap.get?_push_of_some _ (hH2 ▸ Heap.get?_push_size _ rfl))
  obtain ⟨oe, oi, ge, gi⟩ := hIo _ _ hst
  have fe := far (lt_of ge)
  have fi := far (lt_of gi)
  have fresh : ∀ a, s₂.heap.objs.size ≤ a → h₀.get? a = none := fun a ha => get_ge1 (Nat.le_trans (Nat.le_trans F.above (Nat.le_of_lt F.ns.lt)) ha)
  have hD₀ : h₀.get? s₂.heap.objs.size = none := fresh _ (Nat.le_refl _)
  have hC₀ : h₀.get? H2.objs.size = none := fresh _ (by rw [hC]; exact Nat.le_succ _)
  have hL := far F.ns.lt
  have offn : ∀ p ∈ news, p.1 ≠ H2.objs.size ∧ p.1 ≠ s₂.heap.objs.size := fun p hp => far (lt_of (N p hp).1)
  have loop : ∀ s₃ : Shared, s₃ = { s₂ with heap := h₁, toks := s₂.toks + ([] : List (Str × Value)).length } →
      codeAny (model prog w) A (.compLoop (.ListComp elt [⟨.Tuple [.Name x px, .Name x₂ px₂] k tp, iter, [ct], 0⟩] scope pos) 0 (.ref e) (.ref s₂.heap.objs.size) (compEnvC scope cl H2.objs.size env)) (RR (.ref s₂.heap.objs.size) H2.objs.size) s₃ := by
    rintro s₃ rfl
    refine pt_loop (fun j s' => ∃ h' tk i ys m', s' = { s₂ with heap := h', toks := tk } ∧ i ≤ n ∧ j = n + 1 - i ∧ ys.length ≤ i ∧ St i h' ∧ Fr h₀ L h' m ∧ h'.Ns H2.objs.size m' ∧ News h₀ L h' ((s₂.heap.objs.size, lst ys) :: news) ∧ Y i ys) ?_ (n + 1)
      ⟨h₁, _, 0, [], _, rfl, Nat.zero_le _, rfl, Nat.le_refl _, W.frame _ _ _ hst fun b _ o q => old b o q, F.keeps old, hns₁, ?_, hY⟩
    · rintro j s' ⟨h', tk, i, ys, m', rfl, hin, rfl, hyl, hst', F', hn', N', hYi⟩
      rcases Nat.lt_or_ge i n with hlt | hge
      · refine W.item i _ _ _ hlt hst' fun T vals h₂ tk₂ hV _ hTup hMid hk₂ => ?_
        obtain ⟨v₁, v₂, rfl, hP⟩ := hV
        have hTe := W.apart _ _ _ hMid
        refine W.go _ _ _ i T _ _ _ hMid fun h₃ hst₃ hk₃ => ?_
        have ne2 : ∀ {b : Addr}, b ≠ e → b ≠ it → b ∉ [e, it] := fun {b} a1 a2 => by simp [a1, a2]
        have up₃ : ∀ b o, b ≠ e → b ≠ it → h'.get? b = some o → h₃.get? b = some o := fun b o a1 a2 q => hk₃ b o (ne2 a1 a2) (hk₂ b o (ne2 a1 a2) q)
        refine kcp_assign (env := compEnvC scope cl H2.objs.size env) hh (x := v₁) (y := v₂) ?_ (lookup_relabel_local hx) (lookup_relabel_local hx₂) (by simp [compEnvC, relabel, hkind]) (hn'.at' fun o q => up₃ _ o (Ne.symm fe.1) (Ne.symm fi.1) q) fun h₄ tk₄ hn₄ hs₄ => ?_
        · obtain ⟨oT, hT1, hT2⟩ := hTup
          exact ⟨oT, hk₃ _ _ hTe hT1, hT2⟩
        have up : ∀ b o, b ≠ e → b ≠ it → b ≠ H2.objs.size → h'.get? b = some o → h₄.get? b = some o := fun b o a1 a2 a3 q => hs₄ b o a3 (up₃ b o a1 a2 q)
        have st₄ : St (i + 1) h₄ := W.frame _ _ _ hst₃ fun b hb o q => hs₄ b o (by
          rcases List.mem_cons.mp hb with rfl | hb
          · exact fe.1
          · rw [List.mem_singleton.mp hb]; exact fi.1) q
        obtain ⟨oI, oi₄, heI, hei₄⟩ := hIo _ _ st₄
        obtain ⟨oC, heC, hoC⟩ := ns_obj hn₄
        have stK : ∀ h₅ : Heap, h₅.get? e = some oI → h₅.get? it = some oi₄ → St (i + 1) h₅ := fun h₅ q₁ q₂ => W.frame _ _ _ st₄ fun b hb o q => by
          rcases List.mem_cons.mp hb with rfl | hb
          · rw [heI] at q; rw [← q]; exact q₁
          · rw [List.mem_singleton.mp hb] at q ⊢; rw [hei₄] at q; rw [← q]; exact q₂
        have F₄ : Fr h₀ L h₄ m := ⟨F'.ns.at' fun o q => up _ o he.1 hi.1 hL.1 q, fun b o q => up b o (fun z => by rw [z, he.2] at q; cases q) (fun z => by rw [z, hi.2] at q; cases q) (fun z => by rw [z, hC₀] at q; cases q) (F'.keep b o q), F'.above⟩
        have N₄ : News h₀ L h₄ ((e, oI) :: (H2.objs.size, oC) :: (s₂.heap.objs.size, lst ys) :: (it, oi₄) :: news) := fun q hq => by
          rcases List.mem_cons.mp hq with rfl | hq
          · exact ⟨heI, Ne.symm he.1, he.2⟩
          rcases List.mem_cons.mp hq with rfl | hq
          · exact ⟨heC, Ne.symm hL.1, hC₀⟩
          rcases List.mem_cons.mp hq with rfl | hq
          · have z := N' _ (.head _)
            exact ⟨up _ _ (Ne.symm fe.2) (Ne.symm fi.2) hDC z.1, z.2⟩
          rcases List.mem_cons.mp hq with rfl | hq
          · exact ⟨hei₄, Ne.symm hi.1, hi.2⟩
          · have z := N' q (.tail _ hq)
            exact ⟨up _ _ (off q hq).1 (off q hq).2 (offn q hq).1 z.1, z.2⟩
        have off4 : Off3 e H2.objs.size s₂.heap.objs.size ((it, oi₄) :: news) := Off3.of fun p hp => by
          rcases List.mem_cons.mp hp with rfl | hp
          · exact ⟨Ne.symm hei, fi.1, fi.2⟩
          · exact ⟨(off p hp).1, (offn p hp).1, (offn p hp).2⟩
        have fin : ∀ (ys' : List Value) (h₅ : Heap) (tk₅ : Nat), ys'.length ≤ i + 1 → Fr h₀ L h₅ m → News h₀ L h₅ ((e, oI) :: (H2.objs.size, oC) :: (s₂.heap.objs.size, lst ys') :: (it, oi₄) :: news) → Y (i + 1) ys' →
            ∃ j, j < n + 1 - i ∧ (∃ h' tk i ys m', ({ s₂ with heap := h₅, toks := tk₅ } : Shared) = { s₂ with heap := h', toks := tk } ∧ i ≤ n ∧ j = n + 1 - i ∧ ys.length ≤ i ∧ St i h' ∧ Fr h₀ L h' m ∧ h'.Ns H2.objs.size m' ∧ News h₀ L h' ((s₂.heap.objs.size, lst ys) :: news) ∧ Y i ys) := by
          intro ys' h₅ tk₅ hl F₅ N₅ hY₅
          refine ⟨n + 1 - (i + 1), by omega, h₅, tk₅, i + 1, ys', _, rfl, hlt, rfl, hl, stK h₅ (N₅ _ (.head _)).1 (N₅ _ (.tail _ (.tail _ (.tail _ (.head _))))).1, F₅, hoC.ns (N₅ _ (.tail _ (.head _))).1, fun q hq => ?_, hY₅⟩
          rcases List.mem_cons.mp hq with rfl | hq
          · exact N₅ _ (.tail _ (.tail _ (.head _)))
          · exact N₅ q (.tail _ (.tail _ (.tail _ (.tail _ hq))))
        refine wpAny_mono (turn i v₁ v₂ ys oI oC oi₄ H2.objs.size s₂.heap.objs.size _ h₄ tk₄ _ hlt hP hYi hoC (by simp [hxx]) (by simp) F₄ N₄ off4 ⟨fe.1, fe.2, Ne.symm hDC⟩) (fun okb s₅ h₅ => ?_) fun _ _ e => e
        cases okb with
        | false =>
          simp only [Bool.false_eq_true, if_false] at h₅ ⊢
          obtain ⟨h₅, tk₅, news₅, rfl, F₅, N₅, off₅, _, rfl, R₅⟩ := h₅
          exact fin ys h₅ tk₅ (Nat.le_succ_of_le hyl) F₅ N₅ R₅
        | true =>
          simp only [if_true] at h₅ ⊢
          refine wpAny_mono h₅ (fun y s₆ h₆ => ?_) fun _ _ e => e
          obtain ⟨h₅, tk₅, news₅, rfl, F₅, N₅, off₅, _, rfl, R₅⟩ := h₆
          have zI := (N₅ _ (.head _)).1
          have zC := (N₅ _ (.tail _ (.head _))).1
          have zD := (N₅ _ (.tail _ (.tail _ (.head _)))).1
          refine append_at (hsz := by show ys.toArray.size ≤ sizeLine; rw [List.size_toArray]; exact Nat.le_trans hyl (Nat.le_trans hin hsz)) zD fun h₆ hs₆ hD₆ => ?_
          have off5 := off₅.mem
          refine fin (ys ++ [y]) h₆ _ (by rw [List.length_append, List.length_singleton]; exact Nat.succ_le_succ hyl) (F₅.change hs₆ (Ne.symm hL.2) hD₀) (fun q hq => ?_) R₅
          rcases List.mem_cons.mp hq with rfl | hq
          · exact ⟨hs₆.extBut e oI fe.2 zI, Ne.symm he.1, he.2⟩
          rcases List.mem_cons.mp hq with rfl | hq
          · exact ⟨hs₆.extBut _ oC (Ne.symm hDC) zC, Ne.symm hL.1, hC₀⟩
          rcases List.mem_cons.mp hq with rfl | hq
          · exact ⟨hD₆.trans (congrArg some (lst_snoc ys y)), Ne.symm hL.2, hD₀⟩
          · have z := N₅ q (.tail _ (.tail _ (.tail _ hq)))
            exact ⟨hs₆.extBut _ _ (off5 q hq).2.2 z.1, z.2⟩
      · obtain rfl : i = n := Nat.le_antisymm hin hge
        refine W.done _ _ _ hst' fun h₂ tk₂ hk₂ => ?_
        have kp : ∀ {b o}, b ≠ e → b ≠ it → h'.get? b = some o → h₂.get? b = some o := fun {b o} a1 a2 q => hk₂ b o (by simp [a1, a2]) q
        refine hRR _ _ h₂ tk₂ m' ys ?_ ?_ ?_ ?_ hC₀ hD₀ (Ne.symm hL.1) (Ne.symm hL.2) (Ne.symm hDC) (fun p hp => (offn p hp).1) hYi
        · exact ⟨F'.ns.at' fun o q => kp he.1 hi.1 q, fun b o q => kp (fun z => by rw [z, he.2] at q; cases q) (fun z => by rw [z, hi.2] at q; cases q) (F'.keep b o q), F'.above⟩
        · intro p hp
          refine ⟨?_, (N' p hp).2⟩
          rcases List.mem_cons.mp hp with rfl | hp
          · exact kp (Ne.symm fe.2) (Ne.symm fi.2) (N' _ (.head _)).1
          · exact kp (off p hp).1 (off p hp).2 (N' p (.tail _ hp)).1
        · exact (Off3.of (I := e) (C := H2.objs.size) fun p hp => ⟨(off p hp).1, (offn p hp).1, (offn p hp).2⟩).one
        · exact hn'.at' fun o q => kp (Ne.symm fe.1) (Ne.symm fi.1) q
    · intro p hp
      rcases List.mem_cons.mp hp with rfl | hp
      · exact ⟨hacc, Ne.symm hL.2, hD₀⟩
      · exact ⟨old _ _ (N p hp).1, (N p hp).2⟩
  exact codeAny_compStart_list (loop _ rfl) (W.self 0 _ _ _ (W.frame _ _ _ hst fun b _ o q => old b o q) (loop _ rfl))
/-- what is kept so far: signs of the text -/
def YE (y : Str) (i : Nat) (ys : List Value) : Prop := ∃ cs : List Nat, StrsAre ys (cs.map fun c => (⟨#[c]⟩ : Str)) ∧ cs.length ≤ i ∧ ∀ c ∈ cs, c ∈ y.cps.toList
/-- a turn of the filter -/
def TurnE (w : World) (A : Around) (h₀ : Heap) (L : Addr) (m : Str → Option Value) (env : Env) (ct elt : Expr) (x x₂ : Str) (scope : Scope) (cl : List (Str × Addr)) (y : Str) (s : Shared) (news : List (Addr × Obj)) : Prop :=
  ∀ i c t₁ u ys e it oI oC oi C D m₂ h tk (E' : Value → Shared → Prop), i < y.cps.size → y.cps[i]? = some c → NsObj oC m₂ → m₂ x = some (.int (i : Int) t₁) → m₂ x₂ = some (.str ⟨#[c]⟩ u) → Fr h₀ L h m → News h₀ L h ((e, oI) :: (C, oC) :: (D, lst ys) :: (it, oi) :: news) → Off3 e C D ((it, oi) :: news) → ((@Ne Nat e C) ∧ (@Ne Nat e D) ∧ (@Ne Nat C D)) →
    wpAny (model prog w) A (isTrue ct (compEnvC scope cl C env) (eval ct (compEnvC scope cl C env))) (fun b s' => if b = true then wpAny (model prog w) A (eval elt (compEnvC scope cl C env)) (CompEnd h₀ L m { s with heap := h, toks := tk } e oI C oC D (lst ys) (fun _ => True) (fun v news' => news' = (it, oi) :: news ∧ ∃ u, v = .str ⟨#[c]⟩ u)) E' s'
      else CompEnd h₀ L m { s with heap := h, toks := tk } e oI C oC D (lst ys) (fun _ => True) (fun _ news' => news' = (it, oi) :: news) Value.none s') E' { s with heap := h, toks := tk }
/-- where a filter over enumerate(text) stands -/
def SrcE (w : World) (A : Around) (h₀ : Heap) (L : Addr) (m : Str → Option Value) (env : Env) (ct elt : Expr) (x x₂ : Str) (scope : Scope) (cl : List (Str × Addr)) (Q : Value → Shared → Prop) (xv : Value) (s₁ : Shared) : Prop :=
  ∃ e it y t news, xv = .ref e ∧ A.handled = none ∧ Fr h₀ L s₁.heap m ∧ News h₀ L s₁.heap news ∧ IsEnum s₁.heap e it 0 .none ∧ s₁.heap.IsStrIter it "str_ascii_iterator" y t 0 ∧ y.cps.size ≤ sizeLine ∧ e ≠ it ∧ (L ≠ e ∧ h₀.get? e = none) ∧ (L ≠ it ∧ h₀.get? it = none) ∧ (∀ p ∈ news, p.1 ≠ e ∧ p.1 ≠ it) ∧
    TurnE w A h₀ L m env ct elt x x₂ scope cl y s₁ news ∧ (∀ ys D h tk, YE y y.cps.size ys → Fr h₀ L h m → News h₀ L h ((D, lst ys) :: news) → Off1 D news → Q (.ref D) { s₁ with heap := h, toks := tk })
theorem srcE {ct elt : Expr} {x x₂ : Str} {scope : Scope} {cl : List (Str × Addr)} {Q : Value → Shared → Prop} {y : Str} {t : Tok} {news : List (Addr × Obj)} (hh : A.handled = none) (F : Fr h₀ L s.heap m) (N : News h₀ L s.heap news) (ha : y.cps.all (· < 128) = true) (hz : y.cps.size ≤ sizeLine)
    (turn : TurnE w A h₀ L m env ct elt x x₂ scope cl y s news) (fin : ∀ ys D h tk, YE y y.cps.size ys → Fr h₀ L h m → News h₀ L h ((D, lst ys) :: news) → Off1 D news → Q (.ref D) { s with heap := h, toks := tk }) :
    wpAny (model prog w) A (call (.type "enumerate") [.str y t]) (SrcE w A h₀ L m env ct elt x x₂ scope cl Q) E s := by
  refine call_enumerate_str fun h' he hit hsz hk => ?_
  have hab : h₀.objs.size ≤ s.heap.objs.size := Nat.le_trans F.above (Nat.le_of_lt F.ns.lt)
  have hit' : h'.IsStrIter s.heap.objs.size "str_ascii_iterator" y t 0 := by simpa [strIterType, ha] using hit
  exact ⟨_, _, y, t, news, rfl, hh, F.keeps hk, N.grown hk, he, hit', hz, Nat.succ_ne_self _, ⟨Nat.ne_of_lt (Nat.lt_succ_of_lt F.ns.lt), get_ge1 (Nat.le_succ_of_le hab)⟩, ⟨Nat.ne_of_lt F.ns.lt, get_ge1 hab⟩,
    fun p hp => ⟨Nat.ne_of_lt (Nat.lt_succ_of_lt (Heap.lt_size (N p hp).1)), Nat.ne_of_lt (Heap.lt_size (N p hp).1)⟩, turn, fin⟩
/-- a filter over enumerate(text), as a value -/
theorem lc_enum {ct elt iter : Expr} {x x₂ : Str} {px px₂ tp : Pos} {k : Nat} {scope : Scope} {cl : List (Str × Addr)} {pos : Pos} {Q : Value → Shared → Prop} (_ : Fr h₀ L s.heap m)
    (hclos : closureFor scope env = pure cl) (hcell : ∀ y ∈ scope.names, y.2 ≠ .cell) (hkind : scope.kind = .function)
    (hnames : ∀ y ∈ scope.names, y.2 = .local → scope.names.lookup y.1 = some .local) (hx : scope.names.lookup x = some .local) (hx₂ : scope.names.lookup x₂ = some .local) (hxx : x ≠ x₂)
    (h : wpAny (model prog w) A (eval iter env) (SrcE w A h₀ L m env ct elt x x₂ scope cl Q) E s)
    (hs : ∀ x, foldedSetIterable iter env x = pure x := by intro _; rfl) :
    wpAny (model prog w) A (eval (.ListComp elt [⟨.Tuple [.Name x px, .Name x₂ px₂] k tp, iter, [ct], 0⟩] scope pos) env) Q E s := by
  rw [eval_ListComp]
  refine wpAny_comprehension_free (use := none) rfl hs hclos hkind hnames (wpAny_mono h (fun xv s₁ h₁ => ?_) fun _ _ e => e)
  obtain ⟨e, it, y, t, news, rfl, hh, F, N, he, hit, hz, hei, hLe, hLi, off, turn, fin⟩ := h₁
  have W := WalksT.enumerateD (Draws.strAscii (prog := prog) (w := w) (A := A.in1) hh it y t) e hei (fun q => hei (List.mem_singleton.mp q)) (List.mem_singleton.mpr rfl)
  refine W.self 0 _ _ _ ⟨⟨_, he⟩, hit⟩ ?_
  refine pt_block (Y := YE y) (P := fun i v₁ v₂ => ∃ c t₁ u, y.cps[i]? = some c ∧ v₁ = .int (i : Int) t₁ ∧ v₂ = .str ⟨#[c]⟩ u) hh (it := it)
    { W with item := fun i s Q E hi st hQ => W.item i s Q E hi st fun T vals h' tk hP => hQ T vals h' tk (by obtain ⟨t₁, v, ⟨c, u, e1, rfl⟩, rfl⟩ := hP; exact ⟨_, _, rfl, c, t₁, u, e1, rfl, rfl⟩) } hz (fun i h st => ?_) hcell hkind hx hx₂ hxx ⟨⟨_, he⟩, hit⟩ F N hLe hLi hei off ⟨[], .nil, Nat.le_refl _, fun _ h => nomatch h⟩ ?_ ?_
  · obtain ⟨⟨old, h1⟩, o, h2, _⟩ := st
    exact ⟨_, o, h1, h2⟩
  · intro i v₁ v₂ ys oI oC oi C D m₂ h tk E' hi hP hY hC h1 h2 F' N' off' ne
    obtain ⟨c, t₁, u, hc, rfl, rfl⟩ := hP
    obtain ⟨cs, hY1, hY2, hY3⟩ := hY
    refine wpAny_mono (turn i c t₁ u ys e it oI oC oi C D m₂ h tk E' hi hc hC h1 h2 F' N' off' ne) (fun b s₂ hq => ?_) fun _ _ e => e
    cases b with
    | true =>
      simp only [if_true] at hq ⊢
      refine wpAny_mono hq (fun v s₃ hr => ?_) fun _ _ e => e
      obtain ⟨h', tk', nw, e2, F', N', off', hS, rfl, u, rfl⟩ := hr
      refine ⟨h', tk', _, e2, F', N', off', hS, rfl, cs ++ [c], ?_, by simp [hY2], fun z hz => ?_⟩
      · rw [List.map_append]; exact strs_addC hY1
      · rcases List.mem_append.mp hz with hz | hz
        · exact hY3 z hz
        · rw [List.mem_singleton.mp hz]
          rw [← Array.getElem?_toList] at hc
          exact List.mem_of_getElem? hc
    | false =>
      simp only [Bool.false_eq_true, if_false] at hq ⊢
      obtain ⟨h', tk', nw, e2, F', N', off', hS, rfl⟩ := hq
      exact ⟨h', tk', _, e2, F', N', off', hS, rfl, cs, hY1, Nat.le_succ_of_le hY2, hY3⟩
  · intro D C h tk m' ys F' N' o1 hn hC₀ hD₀ hCL hDL hCD offC hY
    refine ⟨m', hn, fun h'' hs'' => fin ys D h'' tk hY (F'.change hs'' hCL hC₀) (fun p hp => ?_) o1⟩
    refine ⟨hs''.extBut _ _ ?_ (N' p hp).1, (N' p hp).2⟩
    rcases List.mem_cons.mp hp with rfl | hp
    · exact Ne.symm hCD
    · exact offC p hp
end
end Mine

end
section
namespace Mine
section
variable {prog' : Program} {w : World} {A : Around} {E : Value → Shared → Prop} {Q : Flow → Shared → Prop} {s : Shared} {env : Env} {h₀ : Heap} {x : Str} {body : List Stmt}
/-- one pass of a for loop over a list of strings ends in a state c' -/
def StS {σ : Type} (Led : σ → List (Addr × Obj)) (ps : σ → List (Str × Value)) (x : Str) (stored : List Str) (m₀ : Str → Option Value) (P : List Str → σ → Prop) (pre : List Str) (m : Str → Option Value) (nx : List (Addr × Obj)) : Prop :=
  ∃ c : σ, nx = Led c ∧ (∀ p ∈ ps c, m p.1 = some p.2) ∧ (∀ z, z ≠ x → (∀ p ∈ ps c, z ≠ p.1) → stored.contains z = false → m z = m₀ z) ∧ P pre c
end
end Mine

end
section
namespace Mine
section
variable {prog' : Program} {w : World} {A : Around} {E : Value → Shared → Prop} {Q : Flow → Shared → Prop} {s : Shared} {env : Env} {h₀ : Heap} {x : Str} {body : List Stmt}
/-- a for loop over a list of strings that stays in the ledger; the ledger is the same all along -/
theorem strs_fix {σ : Type} {l : Addr} {vs : List Value} {ws : List Str} {nn : Nat} {m₀ : Str → Option Value} (news : List (Addr × Obj)) (ps : σ → List (Str × Value)) (P : List Str → σ → Prop) (c₀ : σ)
    (hh : A.handled = none) (hl : (l, listOf vs.toArray nn) ∈ news) (hi : StrsAre vs ws) (F : Fr h₀ env.locals s.heap m₀) (N : News h₀ env.locals s.heap news) (hk : ∀ p ∈ ps c₀, m₀ p.1 = some p.2) (hp : P [] c₀)
    (turn : ∀ (c : σ) pre post n t (u : Str → Option Value) h tk own, ws = pre ++ n :: post → OwnOff own (news.map (·.1)) → P pre c →
      Fr h₀ env.locals h (fun y => if y = x then some (.str n t) else kstB (fun z => if ([] : List Str).contains z then u z else m₀ z) (ps c) y) → News h₀ env.locals h (news ++ own) →
      wpAny (model prog' w) A (execs body env) (InvPostN h₀ env.locals (StS (fun _ : σ => news) ps x [] m₀ P (pre ++ [n])) own (news.map (·.1)) { s with heap := h, toks := tk } Q) E { s with heap := h, toks := tk })
    (done : ∀ (c : σ) (u : Str → Option Value) h tk, P ws c → Fr h₀ env.locals h (fun y => if y = x then u y else kstB (fun z => if ([] : List Str).contains z then u z else m₀ z) (ps c) y) → News h₀ env.locals h news → Q .next { s with heap := h, toks := tk }) :
    wpAny (model prog' w) A (pyIter (.ref l)) (fun it s₂ => LoopAtV prog' w A h₀ env x body Q E it s₂) E s := by
  have hol := (N _ hl).1
  have hls : s.heap.IsList l vs.toArray := ⟨_, hol, rfl, nn, rfl⟩
  have hne : l ≠ s.heap.objs.size := Nat.ne_of_lt (Heap.lt_size hol)
  refine wpAny_pyIter_list hls ?_
  have W := Walks.list (prog := prog') (w := w) hh s.heap.objs.size l hne vs.toArray
  have hlen : vs.toArray.size = ws.length := by simp [hi.length]
  rw [hlen] at W
  have old : ∀ p ∈ news, p.1 ≠ s.heap.objs.size := fun p hp => Nat.ne_of_lt (Heap.lt_size (N p hp).1)
  refine ⟨_, _, _, ws.length, _, _, m₀, news, (fun i m nx => nx = news ∧ StS (fun _ : σ => news) ps x [] m₀ P (ws.take i) m nx), rfl, W, ?_, ?_, ?_, ⟨⟨_, Heap.get?_push_size _ rfl, rfl, rfl⟩, hls.at fun o e => Heap.get?_push_of_some _ e⟩, F.push _, (fun p hp => ⟨Heap.get?_push_of_some _ (N p hp).1, (N p hp).2⟩), ⟨rfl, c₀, rfl, hk, fun _ _ _ _ => rfl, by simpa using hp⟩, ?_, ?_⟩
  · intro hm
    rcases List.mem_cons.mp hm with e | hm
    · exact absurd F.ns.lt (e ▸ Nat.lt_irrefl _)
    · exact (N _ hl).2.1 ((List.mem_singleton.mp hm).symm)
  · intro b hb
    rw [List.mem_singleton.mp hb]
    exact next_is_new F
  · intro p hp hI
    exact old p hp (List.mem_singleton.mp hI)
  · rintro i v m₁ news₁ s₁ own ⟨hh', tk', rfl⟩ hin hP ⟨rfl, c, _, h1, h2, hp'⟩ hoff hown hget hfp _ F₁ N₁
    have hsep : OwnOff (own.filter fun p => decide (p.1 = s.heap.objs.size)) (news₁.map (·.1)) := by
      intro p hp b hb e
      obtain ⟨q, hq, rfl⟩ := List.mem_map.mp hb
      have h1 : p.1 = s.heap.objs.size := by simpa using (List.mem_filter.mp hp).2
      exact old q hq (by rw [← e, h1])
    obtain ⟨t, hx⟩ := hi.get i ws[i] (List.getElem?_eq_getElem hin)
    have hv : v = .str ws[i] t := by
      have h3 : vs[i]? = some v := by rw [← List.getElem?_toArray]; exact hP
      rw [hx] at h3
      exact (Option.some.inj h3).symm
    subst hv
    have hs : ws.take (i + 1) = ws.take i ++ [ws[i]] := by rw [List.take_add_one, List.getElem?_eq_getElem hin]; rfl
    have e : ws = ws.take i ++ ws[i] :: ws.drop (i + 1) := by
      have ht := List.take_append_drop (i + 1) ws
      rw [hs, List.append_assoc] at ht
      exact ht.symm
    have N₂ : News h₀ env.locals hh' (news₁ ++ own.filter fun p => decide (p.1 = s.heap.objs.size)) := fun p hp => N₁ p ((List.mem_append.mp hp).elim (fun h => List.mem_append.mpr (.inr h)) fun h => List.mem_append.mpr (.inl ((List.mem_filter.mp h).1)))
    have hlo : hh'.get? l = some (listOf vs.toArray nn) := (N₁ _ (List.mem_append.mpr (.inr hl))).1
    show wpAny _ _ _ (LoopStepV h₀ env.locals _ own (fun m nx => nx = news₁ ∧ StS (fun _ : σ => news₁) ps x [] m₀ P (ws.take (i + 1)) m nx) _ _ _) _ _
    rw [hs]
    refine wpAny_mono (turn c _ _ ws[i] t m₁ hh' tk' _ e hsep hp' (kst_fr h1 h2 F₁) N₂) (fun f s₂ p => ?_) fun _ _ e => e
    have fin : InvEndN h₀ env.locals (StS (fun _ : σ => news₁) ps x [] m₀ P (ws.take i ++ [ws[i]])) (own.filter fun p => decide (p.1 = s.heap.objs.size)) (news₁.map (·.1)) { s with heap := hh', toks := tk' } s₂ →
        LoopStepU h₀ env.locals [s.heap.objs.size] own (fun m nx => nx = news₁ ∧ StS (fun _ : σ => news₁) ps x [] m₀ P (ws.take i ++ [ws[i]]) m nx) { s with heap := hh', toks := tk' } .next s₂ := by
      rintro ⟨h', tk, m', news', nx, e, F', N', hn, ho, ha, hm⟩
      have hnx : nx = news₁ := hm.choose_spec.1
      subst hnx
      refine ⟨rfl, h', tk, m', nx, e, F', fun p hp => ?_, (fun p hp hI => old p hp (List.mem_singleton.mp hI)), rfl, hm⟩
      rcases List.mem_append.mp hp with h | h
      · by_cases hI : p.1 = s.heap.objs.size
        · exact N' p (ho p (List.mem_filter.mpr ⟨h, by simpa using hI⟩))
        · have h1 : p.1 = l := by
            rcases List.mem_cons.mp (hown p h) with h2 | h2
            · exact absurd h2 hI
            · exact List.mem_singleton.mp h2
          have h2 : hh'.get? p.1 = some p.2 := hget p h
          rw [h1, hlo] at h2
          have h3 : p = (l, listOf vs.toArray nn) := Prod.ext h1 (Option.some.inj h2).symm
          rw [h3]
          exact N' _ (hn _ hl)
      · exact N' p (hn p h)
    cases f with
    | ret v => exact .ret p
    | brk => exact .brk p
    | next => exact .next (fin p)
    | cont => exact .cont (fin p)
  · rintro h' tk m' news' F' N' _ ⟨rfl, c, _, h1, h2, hp'⟩
    rw [List.take_length] at hp'
    exact done c m' h' tk hp' (kst_frOut h1 h2 F') N'
end
end Mine

end
section
local macro_rules | `(tactic| walk_at "ite") => `(tactic| first | with_reducible refine Mine.ite_t ?_ | with_reducible refine Mine.ite_f ?_)
local macro_rules | `(tactic| walk_at "exec If") => `(tactic| ((try k_fold); with_reducible refine wpAny_If ?_))
local macro_rules | `(tactic| walk_at "execs nil") => `(tactic| (with_reducible refine wpAny_execs_nil ?_))
local macro_rules | `(tactic| walk_at "execs cons") => `(tactic| ((try dsimp only); with_reducible refine wpAny_execs_cons ?_))
section
local macro_rules | `(tactic| walk_at "compareOp In str str") => `(tactic| (k_here; (with_reducible show wpAny _ _ (compareOp CmpOp.In (Value.str (Str.mk #[_]) _) _) _ _ _); (with_reducible refine' Mine.in_ch ?e ?_); (case e => first | with_reducible assumption | rfl); k_whole))
local macro_rules | `(tactic| walk_at "compareOp NotIn str str") => `(tactic| (k_here; (with_reducible show wpAny _ _ (compareOp CmpOp.NotIn (Value.str (Str.mk #[_]) _) _) _ _ _); (with_reducible refine' Mine.notin_ch ?e ?_); (case e => first | with_reducible assumption | rfl); k_whole))
local macro_rules | `(tactic| walk_at "compareOp Eq str str") => `(tactic| (k_here; (with_reducible show wpAny _ _ (compareOp CmpOp.Eq (Value.str (Str.mk #[_]) _) (Value.str (Str.ofString "\n") _)) _ _ _); (with_reducible refine' Mine.eq_nl ?e ?_); (case e => first | with_reducible assumption | rfl); k_whole))
local macro_rules | `(tactic| walk_at "truthy str") => `(tactic| (k_here; (with_reducible show wpAny _ _ (truthy (Value.str (Str.mk #[_]) _)) _ _ _); (with_reducible refine Mine.truthy_ch ?_); (try dsimp only)))
local macro_rules | `(tactic| walk_at "ng") => `(tactic| first | exact Mine.ng_own | exact Mine.ng_one)
local macro_rules | `(tactic| walk_at "call ref") => `(tactic| (k_here; k_dflt (first | refine' Mine.rdc_ng (by k_asm) (by walk_at "ng") (by assumption) (by assumption) (by k_asm) (by k_asm) (by k_asm) (by k_asm) (by k_room) (by k_units) (by k_asm) ?_ | refine' Mine.rde_ng (by k_asm) (by walk_at "ng") (by assumption) (by assumption) (by k_asm) (by k_asm) (by k_asm) (by k_asm) (by k_room) (by k_units) (by k_asm) ?_); k_whole; intro h' t' t2' k' F' N'; (try dsimp only); (try k_sweep)))
local macro_rules | `(tactic| ktr_unf) => `(tactic| (repeat' (first | (k_unfold; (try dsimp only)) | ((fail_if_success (with_reducible show wpAny _ _ (exec (Stmt.While _ _ _ _) _) _ _ _)); walk1))))
local macro_rules | `(tactic| walk_at "truthy str") => `(tactic| (k_here; (with_reducible show wpAny _ _ (truthy (Value.str (Mine.S _) _)) _ _ _); (with_reducible refine' Mine.truthy_S ?e ?l ?_); (case e => with_reducible assumption); (case l => first | exact Mine.le4 ‹_› | omega); k_whole; (try dsimp only)))
local macro_rules | `(tactic| walk_at "compareOp Eq str str") => `(tactic| (k_here; (with_reducible show wpAny _ _ (compareOp CmpOp.Eq (Value.str (Mine.S _) _) (Value.str (Str.ofString "") _)) _ _ _); (with_reducible refine' Mine.eq_S ?e ?_); (case e => with_reducible assumption); k_whole))
local macro_rules | `(tactic| walk_at "inplaceOp Add str str") => `(tactic| (k_here; (with_reducible show wpAny _ _ (inplaceOp Operator.Add (Value.str (Mine.S _) _) (Value.str (Str.mk #[_]) _)) _ _ _); (with_reducible refine' Mine.add_S ?l ?_); (case l => first | exact Mine.le4 ‹_› | omega); intro t' k'; (try dsimp only)))
local macro_rules | `(tactic| walk_at "getMethod ref") => `(tactic| (k_here; k_dflt (first | ((with_reducible show wpAny _ _ (getMethod _ (Str.ofString "read") _) _ _ _); refine' Mine.meth_ng (by k_asm) (by k_asm) (by k_asm) (by walk_at "ng") ?_) | ((with_reducible show wpAny _ _ (getMethod _ (Str.ofString "append") _) _ _ _); refine' Mine.dqm_ng Mine.dq_slot_append Mine.dq_type_append (by k_asm) (by walk_at "ng") ?_) | ((with_reducible show wpAny _ _ (getMethod _ (Str.ofString "pop") _) _ _ _); refine' Mine.dqm_ng Mine.dq_slot_pop Mine.dq_type_pop (by k_asm) (by walk_at "ng") ?_) | ((with_reducible show wpAny _ _ (getMethod _ (Str.ofString "appendleft") _) _ _ _); refine' Mine.dqm_ng Mine.dq_slot_appendleft Mine.dq_type_appendleft (by k_asm) (by walk_at "ng") ?_)); k_whole))
local macro_rules | `(tactic| walk_at "compareOp In str str") => `(tactic| (k_here; (with_reducible show wpAny _ _ (compareOp CmpOp.In (Value.str (Str.ofString _) _) (Value.str (Str.ofString _) _)) _ _ _); first | ((with_reducible refine' Mine.in_lit_f ?e ?_); (case e => decide +kernel)) | ((with_reducible refine' Mine.in_lit_t ?e ?_); (case e => decide +kernel))))
local macro_rules | `(tactic| walk_at "getAttr ref") => `(tactic| (k_here; k_dflt (first | refine' Mine.get_ng (by k_asm) (by k_asm) (by k_asm) (by walk_at "ng") (by k_is) (by k_is) (by k_is) (by k_is) (by k_get) (by k_handed) ?_ | refine' Mine.get_ng2 (by k_asm) (by k_asm) (by k_asm) (by walk_at "ng") (by k_is) (by k_is) (by k_is) (by k_is) (by k_get) (by k_handed) ?_); k_whole))
local macro_rules | `(tactic| walk_at "setAttr ref") => `(tactic| (k_here; k_dflt (refine' Mine.set_ng (by k_asm) (by k_asm) (by k_asm) (by walk_at "ng") (by assumption) (by assumption) (by k_is) (by k_get) (by first | exact Mine.put_sv | exact Mine.put_tk | exact Mine.put_ln) ?_; k_whole; intro h' k' F' N'; (try dsimp only at N'); (try k_sweep))))
local macro_rules | `(tactic| walk_at "callWith ref") => `(tactic| (k_here; first
  | ((with_reducible show wpAny _ _ (callWith _ _ _ (backTo _ (starEach [] _)) []) _ _ _); (refine' callWith_K0 (Frag.In.keeps (by with_reducible assumption) (Fr.keep (by assumption))) (by k_is) ?_); k_whole; (try dsimp only [List.nil_append, List.cons_append, List.append_nil]))
  | ((refine' callWith_K (by k_asm) (by k_is) ?_); k_whole)))
local macro_rules | `(tactic| walk_at "compareOp Eq str str") => `(tactic| (k_here; (with_reducible show wpAny _ _ (compareOp CmpOp.Eq (Value.str (Str.mk #[_]) _) (Value.str (Str.ofString " ") _)) _ _ _); (with_reducible refine' Mine.eq_sp ?e ?_); (case e => first | with_reducible assumption | rfl); k_whole))
local macro_rules | `(tactic| walk_at "compareOp Eq str str") => `(tactic| (k_here; (with_reducible show wpAny _ _ (compareOp CmpOp.Eq (Value.str (Str.mk #[_]) _) (Value.str (Str.mk #[_]) _)) _ _ _); (with_reducible refine' Mine.eq_cc ?e ?_); (case e => first | with_reducible assumption | rfl); k_whole))
local macro_rules | `(tactic| walk_at "leaving ref") => `(tactic| (k_here; (refine' leave_raiseS ?k1 ?k0 ?k2 ?k3 ?_; (case k0 => first | assumption | exact Heap.MadeExc.of (by assumption)); (case k2 => assumption); (case k1 => assumption); (case k3 => k_asm); k_whole; intro h' t' S' R' U'; (try dsimp only at S' R' U' ⊢))))
local macro_rules | `(tactic| walk_at "truthy str") => `(tactic| (k_here; (with_reducible refine' Mine.truthy_ne ?e ?l ?_); (case e => with_reducible assumption); (case l => with_reducible assumption); k_whole; (try dsimp only)))
local macro_rules | `(tactic| walk_at "call builtin:collections.deque.pop") => `(tactic| (k_here; k_dflt (refine' Mine.dqp_ng (by k_asm) (by k_asm) (by walk_at "ng") (by assumption) ?_; k_whole); intro h' F' N'; (try dsimp only); (try k_sweep)))
local macro_rules | `(tactic| walk_at "call builtin:collections.deque.append") => `(tactic| (k_here; k_dflt (refine' Mine.dqa_ng (by k_asm) (by k_asm) (by walk_at "ng") (by assumption) ?_; k_whole); intro h' F' N'; (try dsimp only); (try k_sweep)))
local macro_rules | `(tactic| walk_at "truthy ref") => `(tactic| (k_here; k_dflt (refine' Mine.dqt_ng (by k_asm) (by walk_at "ng") (by exact Nat.le_of_ble_eq_true rfl) ?_; k_whole); (try dsimp only [List.isEmpty_cons, List.isEmpty_nil, Bool.not_true, Bool.not_false])))
local macro_rules | `(tactic| walk_at "call builtin:collections.deque.appendleft") => `(tactic| (k_here; k_dflt (refine' Mine.dql_ng (by k_asm) (by k_asm) (by walk_at "ng") (by assumption) ?_; k_whole); intro h' F' N'; (try dsimp only); (try k_sweep)))
local macro_rules | `(tactic| walk_at "getAttr ref") => `(tactic| (k_here; (with_reducible show wpAny _ _ (getAttr (Value.ref _) (Str.ofString "punctuation_chars") _) _ _ _); k_dflt (refine' Mine.pun_ng (by k_asm) (by walk_at "ng") (by k_asm) (by k_asm) (by k_asm) (by k_asm) (by k_room) (by k_units) ?_; k_whole); intro h' tk' F' N'; (try dsimp only); (try k_sweep)))

namespace Mine
section
variable {w : World} {A₀ : Around} {base h₀ : Heap} {outer : List Env} {L : Addr} {m mg mb : Str → Option Value} {loose : List Str} {mean : ExcName → Option Value} {s : Shared} {Q E : Value → Shared → Prop} {p : Program}
  {hdl : Option Value} {d u : Nat} {gs : Option (List Code)} {rest : List (Addr × Obj)} {ns : List (Str × NameKind)} {ig ic : Bool} {mo : List (Str × Const)} {gl bi : Addr} {cs : List (Str × Addr)} {qn : Str} {fo : Option Addr} {cdv : Value}
def TIZ (b : Bool) (st : S5) (l : List Nat) (q : Bool) : Prop := match st with
  | .white => l = [] ∧ (b = true → q = false)
  | .word => l.isEmpty = false ∧ (b = true → q = false)
  | .punct => l.isEmpty = false ∧ (b = true → q = false)
  | _ => True
def InvZ (x : Str) (b : Bool) (F : List Nat → S5 → List Nat → Int → Option R5) (R : R5) (pu : Str) (c : LS5) : Prop :=
  ∃ st l pq, (pu.cps.toList.isEmpty = true → pq = [] ∧ st ≠ .punct) ∧ SV5 st c.sv ∧ c.tok = S l ∧ PC c.pcv pq ∧ l.length + (pq ++ x.cps.toList.drop c.pos).length ≤ 100000 ∧ TIZ b st l c.q ∧ F (pq ++ x.cps.toList.drop c.pos) st l c.ln = some R
def EndZ (x : Str) (b : Bool) (R : R5) (c : LS5) : Prop :=
  ∃ tok st push, R = .ok tok st (x.cps.toList.drop c.pos) c.ln push ∧ c.tok = S tok ∧ tok.length ≤ 100000 ∧ SV5 st c.sv ∧ PC c.pcv push.toList ∧ (b = true → c.q = false ∧ tok.isEmpty = false)
theorem qne_nZ : (Str.ofString "quoted" = Str.ofString "nextchar") = False := eq_false (by decide +kernel)
theorem qne_eZ : (Str.ofString "quoted" = Str.ofString "escapedstate") = False := eq_false (by decide +kernel)
def msgZ : S5 → Str
  | .esc => Str.ofString "No escaped character"
  | _ => Str.ofString "No closing quotation"
theorem rtokZ {K : GK} {pb pc : Addr} {x wc cm pu tkx : Str} {pos : Nat} {ex : List DictEntry} {sp : Bool} {sv : Value} {ln : Int} {t2 tl tt : Tok} {pcv : List Value} {pcn : Int} {st : S5} {pq l0 : List Nat} {R : R5}
  (B : Below A₀ base outer h₀) (F : Fr h₀ L s.heap m) (X : (hd.heap_1 w.params).In h₀) (T : Top p loose mean mg mb h₀) (hdp : d < 900) (hun : u < 9000)
  (hx : x.length ≤ 100000) (hA : ApG K pc rest)
  (hsv : SV5 st sv) (hpc : PC pcv pq) (htk : tkx = S l0) (hti : TIZ false st l0 false) (hlen : l0.length + (pq ++ x.cps.toList.drop pos).length ≤ 100000) (hG : GX w.params pu pb pc ex) (hN : pu.cps.toList.isEmpty = true → pq = [] ∧ st ≠ .punct)
  (hrt : rt5 true false sp (fun c => wc.cps.toList.contains c) (fun c => pu.cps.toList.contains c) (fun c => cm.cps.toList.contains c) (pq ++ x.cps.toList.drop pos) st l0 ln = some R)
  (N : News h₀ L s.heap (lgG w.params K pb pc x wc cm pu ex false sp sv ln tl tkx tt pos t2 pcv pcn rest))
  (hQ : ∀ h' v sv' ln' tl' tt' pos' t2' pcv' pcn' k tok st' push t, Fr h₀ L h' m → News h₀ L h' (lgG w.params K pb pc x wc cm pu ex false sp sv' ln' tl' (S []) tt' pos' t2' pcv' pcn' rest) →
    R = .ok tok st' (x.cps.toList.drop pos') ln' push → SV5 st' sv' → PC pcv' push.toList → v = .str (S tok) t → Q v { s with heap := h', toks := k })
  (hE : ∀ h' e t g' sv' ln' tl' tt' pos' t2' pcn' k tok st' tv, RaisedS base g' (fenv ns ig ic mo gl cs qn fo cdv bi L :: outer) e (.type "ValueError") t [.str (msgZ st') tv] (lgG w.params K pb pc x wc cm pu ex false sp sv' ln' tl' (S tok) tt' pos' t2' [] pcn' rest) h' → Fr h₀ L g' m → g'.UpToSlots h' →
    R = .fault tok st' ln' → SV5 st' sv' → x.cps.toList.drop pos' = [] → E (.ref e) { s with heap := h', toks := k })
  : wpAny (model prog w) (ar none d (fenv ns ig ic mo gl cs qn fo cdv bi L :: outer) gs u) (call (.ref 690) [.ref K.lx]) Q E s := by
  have hex := hG.len
  refine wpAny_call ?_
  k_enter
  ktr_unf
  rename Fr _ _ _ _ => F1
  rename News _ _ _ _ => N1
  refine wl_whileE (σ := LS5) (fun c => lgG w.params K pb pc x wc cm pu ex false sp c.sv c.ln c.tl c.tok c.tt c.pos c.tp c.pcv c.pcn rest) (fun c => [(Str.ofString "quoted", .bool c.q)]) [Str.ofString "nextchar", Str.ofString "escapedstate"]
    (InvZ x false (rt5 true false sp (fun c => wc.cps.toList.contains c) (fun c => pu.cps.toList.contains c) (fun c => cm.cps.toList.contains c)) R pu) (EndZ x false R) (fun c => (x.length - c.pos) + c.pcv.length) ⟨sv, ln, tl, tkx, tt, pos, t2, pcv, pcn, false⟩ F1 N1 ?_ ?_ ?_ ?_
  · intro p hp
    rw [List.mem_singleton.mp hp]
    simp only [qne_eZ, if_true, if_false]
  · exact ⟨st, l0, pq, hN, hsv, htk, hpc, hlen, hti, hrt⟩
  · clear N1 F1 hrt hti hlen hpc htk hsv N
    clear hN; rintro ⟨sv, ln, tl, tok, tt, pos', tp, pcv', pcn', q⟩ u h tk ⟨st, l, pq, hN, h5, h6, h7, h8, h9, h13⟩ F2 N2
    dsimp only at h5 h6 h7 h8 h9 h13 N2 F2
    subst h6
    (repeat' (first | (k_unfold; (try dsimp only)) | ((fail_if_success (with_reducible show wpAny _ _ (execs (_ :: _) _) _ _ _)); walk1)))
    replace F2 : Fr _ _ _ (FrB u _ q) := F2
    refine post_gen ?_
    intro Qv hQv
    have hI := fun c h m' tk F N ho hp hm => @lf_1 _ h _ _ _ _ _ _ _ _ _ c m' tk hQv F N ho hp hm
    have hB := fun c h m' tk F N ho hp => @lf_2 _ h _ _ _ _ _ _ _ _ _ c m' tk hQv F N ho hp
    clear hQv
    cases hin : (pq ++ x.cps.toList.drop pos') with
    | nil =>
      refine nx5_mid F2 (fun pos tp pcn => lgG w.params K pb pc x wc cm pu ex false sp sv ln tl (S l) tt pos tp [] pcn rest) x (Str.ofString "") [] (x.length - pos' + 1) ?_ ?_
      ·
        rcases h7 with ⟨rfl, rfl⟩ | ⟨c0, t0, rfl, rfl⟩
        ·
          have hin : x.cps.toList.drop pos' = [] := hin
          rcases hG with ⟨rfl, rfl, rfl⟩ | ⟨hpu, hpl, k19, rfl⟩
          ·
            k_steps
            all_goals exact ⟨_, _, _, _, _, _, rfl, by assumption, by assumption, by assumption, by first | exact mu0 | exact mu1 hpl2 | exact mu2 | omega⟩
          ·
            k_steps
            all_goals exact ⟨_, _, _, _, _, _, rfl, by assumption, by assumption, by assumption, by first | exact mu0 | exact mu1 hpl2 | exact mu2 | omega⟩
        ·
          cases hin
      ·
        clear F2 N2
        intro h tk tn pos2 tp2 pcn2 F2 N2 hd hmu
        refine ln5_mid F2 (fun ln tl => lgG w.params K pb pc x wc cm pu ex false sp sv ln tl (S l) tt pos2 tp2 [] pcn2 rest) ln ?_ ?_
        ·
          k_steps
          all_goals exact ⟨_, _, _, rfl, by assumption, by assumption⟩
        ·
          clear F2 N2
          intro h tk tl2 ln2 hln F2 N2
          subst hln
          rw [hin] at h13 h8
          (repeat' (first | (k_unfold; (try dsimp only)) | ((fail_if_success (with_reducible show wpAny _ _ (execs (Stmt.If (Expr.Compare _ [CmpOp.Is] _ _) _ _ _ :: _) _) _ _ _)); walk1)))
          cases st with
          | fin =>
            subst h5
            (first | rw [re_nq] at h13 | rw [re_ne] at h13 | rw [re_nf] at h13 | rw [re_nw] at h13 | rw [re_no] at h13 | rw [re_np] at h13); (try simp only [← hln] at h13); (try clear hln)
            simp only [if_true] at h13
            obtain rfl := Option.some.inj h13
            k_steps
            all_goals (exact hB ⟨_, _, _, _, _, _, _, _, _, q⟩ _ _ _ (by assumption) (by first | assumption | exact news_tl (by assumption)) (by repeat' (first | exact fo_0 | apply fo_n | apply fo_e | apply fo_q)) ⟨[], .fin, none, by rw [hd], rfl, by first | exact Nat.zero_le _ | exact le7 h8 | exact le4 h8 | exact le5 h8 | exact le6 | (simp only [List.length_append, List.length_cons, List.length_nil] at h8 ⊢; omega), rfl, .inl ⟨rfl, rfl⟩, fun e => nomatch e⟩)
          | white =>
            obtain ⟨rfl, hq⟩ := h9
            obtain ⟨ts, rfl⟩ := h5
            (first | rw [re_nq] at h13 | rw [re_ne] at h13 | rw [re_nf] at h13 | rw [re_nw] at h13 | rw [re_no] at h13 | rw [re_np] at h13); (try simp only [← hln] at h13); (try clear hln)
            simp only [if_true] at h13
            obtain rfl := Option.some.inj h13
            k_steps
            all_goals (exact hB ⟨_, _, _, _, _, _, _, _, _, q⟩ _ _ _ (by assumption) (by first | assumption | exact news_tl (by assumption)) (by repeat' (first | exact fo_0 | apply fo_n | apply fo_e | apply fo_q)) ⟨[], .fin, none, by rw [hd], rfl, by first | exact Nat.zero_le _ | exact le7 h8 | exact le4 h8 | exact le5 h8 | exact le6 | (simp only [List.length_append, List.length_cons, List.length_nil] at h8 ⊢; omega), rfl, .inl ⟨rfl, rfl⟩, fun e => nomatch e⟩)
          | word =>
            obtain ⟨hle, hq⟩ := h9
            obtain ⟨ts, rfl⟩ := h5
            (first | rw [re_nq] at h13 | rw [re_ne] at h13 | rw [re_nf] at h13 | rw [re_nw] at h13 | rw [re_no] at h13 | rw [re_np] at h13); (try simp only [← hln] at h13); (try clear hln)
            simp only [if_true] at h13
            obtain rfl := Option.some.inj h13
            k_steps
            all_goals (exact hB ⟨_, _, _, _, _, _, _, _, _, q⟩ _ _ _ (by assumption) (by first | assumption | exact news_tl (by assumption)) (by repeat' (first | exact fo_0 | apply fo_n | apply fo_e | apply fo_q)) ⟨l, .fin, none, by rw [hd], rfl, by first | exact Nat.zero_le _ | exact le7 h8 | exact le4 h8 | exact le5 h8 | exact le6 | (simp only [List.length_append, List.length_cons, List.length_nil] at h8 ⊢; omega), rfl, .inl ⟨rfl, rfl⟩, fun e => nomatch e⟩)
          | wordq =>
            simp [re_nf, re_nw, re_no, re_nx, re_np, re_cf, re_ce] at h13
          | punct =>
            obtain ⟨hle, hq⟩ := h9
            obtain ⟨ts, rfl⟩ := h5
            (first | rw [re_nq] at h13 | rw [re_ne] at h13 | rw [re_nf] at h13 | rw [re_nw] at h13 | rw [re_no] at h13 | rw [re_np] at h13); (try simp only [← hln] at h13); (try clear hln)
            simp only [if_true] at h13
            obtain rfl := Option.some.inj h13
            k_steps
            all_goals (exact hB ⟨_, _, _, _, _, _, _, _, _, q⟩ _ _ _ (by assumption) (by first | assumption | exact news_tl (by assumption)) (by repeat' (first | exact fo_0 | apply fo_n | apply fo_e | apply fo_q)) ⟨l, .fin, none, by rw [hd], rfl, by first | exact Nat.zero_le _ | exact le7 h8 | exact le4 h8 | exact le5 h8 | exact le6 | (simp only [List.length_append, List.length_cons, List.length_nil] at h8 ⊢; omega), rfl, .inl ⟨rfl, rfl⟩, fun e => nomatch e⟩)
          | quote q0 =>
            (first | rw [re_nq] at h13 | rw [re_ne] at h13 | rw [re_nf] at h13 | rw [re_nw] at h13 | rw [re_no] at h13 | rw [re_np] at h13); (try simp only [← hln] at h13); (try clear hln)
            obtain rfl := Option.some.inj h13
            obtain ⟨hq0, ts, rfl⟩ := h5
            have hsp32 := (isQ_ne hq0).1
            have hq1 : (Str.ofString "'\"").cps.toList.contains q0 = true := hq0
            (repeat' (first | (k_unfold; (try dsimp only)) | ((fail_if_success (with_reducible show wpAny _ _ (exec (Stmt.Raise _ _ _) _) _ _ _)); walk1)))
            (with_reducible rename Fr _ _ _ _ => kF)
            refine' Raise_madeB PySem.F.excCall_ValueError PySem.F.excRaise_ValueError ?hhquote ?hxquote ?hequote ?hpquote
            case hhquote => rfl
            case hequote => rfl
            case hpquote => rfl
            refine' name_B kF ?k1quote ?k2quote ?k3quote ?k4quote ?k5quote ?_
            case k1quote => k_asm
            case k2quote => k_asm
            case k3quote => k_is
            case k4quote => boot_by_name
            case k5quote => decide
            refine ⟨rfl, ?_⟩
            k_steps
            all_goals (exact hE _ _ _ _ _ _ _ _ _ _ _ _ _ _ _ (by assumption) (by assumption) (by assumption) rfl ⟨hq0, _, rfl⟩ hd)
          | esc =>
            (first | rw [re_nq] at h13 | rw [re_ne] at h13 | rw [re_nf] at h13 | rw [re_nw] at h13 | rw [re_no] at h13 | rw [re_np] at h13); (try simp only [← hln] at h13); (try clear hln)
            obtain rfl := Option.some.inj h13
            obtain ⟨ts, rfl⟩ := h5
            have hsp32 : ((92 : Nat) == 32) = false := rfl
            have hq1 : (Str.ofString "'\"").cps.toList.contains 92 = false := by decide +kernel
            have hes : (Str.ofString "\\").cps.toList.contains 92 = true := by decide +kernel
            (repeat' (first | (k_unfold; (try dsimp only)) | ((fail_if_success (with_reducible show wpAny _ _ (exec (Stmt.Raise _ _ _) _) _ _ _)); walk1)))
            (with_reducible rename Fr _ _ _ _ => kF)
            refine' Raise_madeB PySem.F.excCall_ValueError PySem.F.excRaise_ValueError ?hhesc ?hxesc ?heesc ?hpesc
            case hhesc => rfl
            case heesc => rfl
            case hpesc => rfl
            refine' name_B kF ?k1esc ?k2esc ?k3esc ?k4esc ?k5esc ?_
            case k1esc => k_asm
            case k2esc => k_asm
            case k3esc => k_is
            case k4esc => boot_by_name
            case k5esc => decide
            refine ⟨rfl, ?_⟩
            k_steps
            all_goals (exact hE _ _ _ _ _ _ _ _ _ _ _ _ _ _ _ (by assumption) (by assumption) (by assumption) rfl ⟨_, rfl⟩ hd)
    | cons c r =>
      refine nx5_mid F2 (fun pos tp pcn => lgG w.params K pb pc x wc cm pu ex false sp sv ln tl (S l) tt pos tp [] pcn rest) x ⟨#[c]⟩ r (x.length - pos' + pcv'.length) ?_ ?_
      ·
        rcases h7 with ⟨rfl, rfl⟩ | ⟨c0, t0, rfl, rfl⟩
        ·
          have hin : x.cps.toList.drop pos' = c :: r := hin
          obtain ⟨hd, hpl2⟩ := drop_next hin
          have hpl2 : pos' + 1 ≤ x.length := by simpa [Str.length] using hpl2
          rcases hG with ⟨rfl, rfl, rfl⟩ | ⟨hpu, hpl, k19, rfl⟩
          ·
            k_steps
            all_goals exact ⟨_, _, _, _, _, _, rfl, by assumption, by assumption, by assumption, by first | exact mu0 | exact mu1 hpl2 | exact mu2 | omega⟩
          ·
            k_steps
            all_goals exact ⟨_, _, _, _, _, _, rfl, by assumption, by assumption, by assumption, by first | exact mu0 | exact mu1 hpl2 | exact mu2 | omega⟩
        ·
          have hin : c0 :: x.cps.toList.drop pos' = c :: r := hin
          obtain ⟨rfl, hd⟩ := List.cons.inj hin
          rcases hG with ⟨rfl, rfl, rfl⟩ | ⟨hpu, hpl, k19, rfl⟩
          · exact absurd (hN emp_S).1 (by simp)
          ·
            k_steps
            all_goals exact ⟨_, _, _, _, _, _, rfl, by assumption, by assumption, by assumption, by first | exact mu0 | exact mu1 hpl2 | exact mu2 | omega⟩
      ·
        clear F2 N2
        intro h tk tn pos2 tp2 pcn2 F2 N2 hd hmu
        refine ln5_mid F2 (fun ln tl => lgG w.params K pb pc x wc cm pu ex false sp sv ln tl (S l) tt pos2 tp2 [] pcn2 rest) (lnp c ln) ?_ ?_
        ·
          cases hc10 : (c == 10) with
          | true =>
            have e : lnp c ln = ln + 1 := by simp only [lnp, hc10, if_true]
            rw [e]
            k_steps
            all_goals exact ⟨_, _, _, rfl, by assumption, by assumption⟩
          | false =>
            have e : lnp c ln = ln := by simp only [lnp, hc10, if_false, Bool.false_eq_true]
            rw [e]
            k_steps
            all_goals exact ⟨_, _, _, rfl, by assumption, by assumption⟩
        ·
          clear F2 N2
          intro h tk tl2 ln2 hln F2 N2
          rw [hin] at h13 h8
          (repeat' (first | (k_unfold; (try dsimp only)) | ((fail_if_success (with_reducible show wpAny _ _ (execs (Stmt.If (Expr.Compare _ [CmpOp.Is] _ _) _ _ _ :: _) _) _ _ _)); walk1)))
          cases st with
          | fin =>
            simp [re_nf, re_nw, re_no, re_nx, re_np, re_cf, re_ce] at h13
          | white =>
            obtain ⟨rfl, hq⟩ := h9
            obtain ⟨ts, rfl⟩ := h5
            have hle : ([] : List Nat).isEmpty = true := rfl
            (repeat' (first | (k_unfold; (try dsimp only)) | ((fail_if_success (with_reducible show wpAny _ _ (compareOp CmpOp.In (Value.str (Str.mk #[_]) _) _) _ _ _)); (fail_if_success (with_reducible show wpAny _ _ (isTrue (Expr.BoolOp _ _ _) _ _) _ _ _)); walk1)))
            cases hws : (Str.ofString " \t\x0d\n").cps.toList.contains c with
            | true =>
              replace h13 := w_ws h13 hln hws
              walk1
              (repeat' (first | (k_unfold; (try dsimp only)) | ((fail_if_success (with_reducible show wpAny _ _ (compareOp CmpOp.In (Value.str (Str.mk #[_]) _) _) _ _ _)); (fail_if_success (with_reducible show wpAny _ _ (isTrue (Expr.BoolOp _ _ _) _ _) _ _ _)); walk1)))
              refine test_f ?_ (fun tk => ?_)
              ·
                k_steps
                all_goals exact ⟨rfl, _, rfl⟩
              ·
                k_steps
                all_goals (first | exact (hI ⟨_, _, _, _, _, _, _, _, _, q⟩ _ _ _ (by assumption) (by first | assumption | exact news_tl (by assumption)) (by repeat' (first | exact fo_0 | apply fo_n | apply fo_e | apply fo_q)) ⟨.white, [], [], fun _ => ⟨rfl, fun e => nomatch e⟩, ⟨_, rfl⟩, rfl, .inl ⟨rfl, rfl⟩, by first | exact le1 hd h8 | exact le2 hd h8 | exact le3 hd h8 | (rw [List.nil_append, hd]; simp only [List.length_append, List.length_cons, List.length_nil] at h8 ⊢; omega), ⟨rfl, hq⟩, by rw [List.nil_append, hd]; exact h13⟩ hmu).1 | exact (hI ⟨_, _, _, _, _, _, _, _, _, q⟩ _ _ _ (by assumption) (by first | assumption | exact news_tl (by assumption)) (by repeat' (first | exact fo_0 | apply fo_n | apply fo_e | apply fo_q)) ⟨.white, [], [], fun _ => ⟨rfl, fun e => nomatch e⟩, ⟨_, rfl⟩, rfl, .inl ⟨rfl, rfl⟩, by first | exact le1 hd h8 | exact le2 hd h8 | exact le3 hd h8 | (rw [List.nil_append, hd]; simp only [List.length_append, List.length_cons, List.length_nil] at h8 ⊢; omega), ⟨rfl, hq⟩, by rw [List.nil_append, hd]; exact h13⟩ hmu).2)
            | false =>
              have hcm : cm.cps.toList.contains c = false := w_cm h13 hws
              walk1
              (repeat' (first | (k_unfold; (try dsimp only)) | ((fail_if_success (with_reducible show wpAny _ _ (compareOp CmpOp.In (Value.str (Str.mk #[_]) _) _) _ _ _)); (fail_if_success (with_reducible show wpAny _ _ (isTrue (Expr.BoolOp _ _ _) _ _) _ _ _)); walk1)))
              walk1
              (repeat' (first | (k_unfold; (try dsimp only)) | ((fail_if_success (with_reducible show wpAny _ _ (compareOp CmpOp.In (Value.str (Str.mk #[_]) _) _) _ _ _)); (fail_if_success (with_reducible show wpAny _ _ (isTrue (Expr.BoolOp _ _ _) _ _) _ _ _)); walk1)))
              refine test_f ?_ (fun tk => ?_)
              ·
                k_steps
                all_goals exact ⟨rfl, _, rfl⟩
              (repeat' (first | (k_unfold; (try dsimp only)) | ((fail_if_success (with_reducible show wpAny _ _ (compareOp CmpOp.In (Value.str (Str.mk #[_]) _) _) _ _ _)); (fail_if_success (with_reducible show wpAny _ _ (isTrue (Expr.BoolOp _ _ _) _ _) _ _ _)); walk1)))
              cases hwc : wc.cps.toList.contains c with
              | true =>
                replace h13 := w_W h13 hln hws hwc
                k_steps
                all_goals (first | exact (hI ⟨_, _, _, _, _, _, _, _, _, q⟩ _ _ _ (by assumption) (by first | assumption | exact news_tl (by assumption)) (by repeat' (first | exact fo_0 | apply fo_n | apply fo_e | apply fo_q)) ⟨.word, [c], [], fun _ => ⟨rfl, fun e => nomatch e⟩, ⟨_, rfl⟩, rfl, .inl ⟨rfl, rfl⟩, by first | exact le1 hd h8 | exact le2 hd h8 | exact le3 hd h8 | (rw [List.nil_append, hd]; simp only [List.length_append, List.length_cons, List.length_nil] at h8 ⊢; omega), ⟨rfl, hq⟩, by rw [List.nil_append, hd]; exact h13⟩ hmu).1 | exact (hI ⟨_, _, _, _, _, _, _, _, _, q⟩ _ _ _ (by assumption) (by first | assumption | exact news_tl (by assumption)) (by repeat' (first | exact fo_0 | apply fo_n | apply fo_e | apply fo_q)) ⟨.word, [c], [], fun _ => ⟨rfl, fun e => nomatch e⟩, ⟨_, rfl⟩, rfl, .inl ⟨rfl, rfl⟩, by first | exact le1 hd h8 | exact le2 hd h8 | exact le3 hd h8 | (rw [List.nil_append, hd]; simp only [List.length_append, List.length_cons, List.length_nil] at h8 ⊢; omega), ⟨rfl, hq⟩, by rw [List.nil_append, hd]; exact h13⟩ hmu).2)
              | false =>
                walk1
                (repeat' (first | (k_unfold; (try dsimp only)) | ((fail_if_success (with_reducible show wpAny _ _ (compareOp CmpOp.In (Value.str (Str.mk #[_]) _) _) _ _ _)); (fail_if_success (with_reducible show wpAny _ _ (isTrue (Expr.BoolOp _ _ _) _ _) _ _ _)); walk1)))
                cases hpn : pu.cps.toList.contains c with
                | true =>
                  replace h13 := w_U h13 hln hws hwc hpn
                  k_steps
                  all_goals (first | exact (hI ⟨_, _, _, _, _, _, _, _, _, q⟩ _ _ _ (by assumption) (by first | assumption | exact news_tl (by assumption)) (by repeat' (first | exact fo_0 | apply fo_n | apply fo_e | apply fo_q)) ⟨.punct, [c], [], (fun e => nomatch (e.symm.trans (contains_ne hpn))), ⟨_, rfl⟩, rfl, .inl ⟨rfl, rfl⟩, by first | exact le1 hd h8 | exact le2 hd h8 | exact le3 hd h8 | (rw [List.nil_append, hd]; simp only [List.length_append, List.length_cons, List.length_nil] at h8 ⊢; omega), ⟨rfl, hq⟩, by rw [List.nil_append, hd]; exact h13⟩ hmu).1 | exact (hI ⟨_, _, _, _, _, _, _, _, _, q⟩ _ _ _ (by assumption) (by first | assumption | exact news_tl (by assumption)) (by repeat' (first | exact fo_0 | apply fo_n | apply fo_e | apply fo_q)) ⟨.punct, [c], [], (fun e => nomatch (e.symm.trans (contains_ne hpn))), ⟨_, rfl⟩, rfl, .inl ⟨rfl, rfl⟩, by first | exact le1 hd h8 | exact le2 hd h8 | exact le3 hd h8 | (rw [List.nil_append, hd]; simp only [List.length_append, List.length_cons, List.length_nil] at h8 ⊢; omega), ⟨rfl, hq⟩, by rw [List.nil_append, hd]; exact h13⟩ hmu).2)
                | false =>
                  walk1
                  (repeat' (first | (k_unfold; (try dsimp only)) | ((fail_if_success (with_reducible show wpAny _ _ (compareOp CmpOp.In (Value.str (Str.mk #[_]) _) _) _ _ _)); (fail_if_success (with_reducible show wpAny _ _ (isTrue (Expr.BoolOp _ _ _) _ _) _ _ _)); walk1)))
                  cases hqs : (Str.ofString "'\"").cps.toList.contains c with
                  | true =>
                    replace h13 := w_Q h13 hln hws hwc hpn hqs
                    simp only [if_false, Bool.false_eq_true] at h13
                    k_steps
                    all_goals (first | exact (hI ⟨_, _, _, _, _, _, _, _, _, q⟩ _ _ _ (by assumption) (by first | assumption | exact news_tl (by assumption)) (by repeat' (first | exact fo_0 | apply fo_n | apply fo_e | apply fo_q)) ⟨.quote c, _, [], fun _ => ⟨rfl, fun e => nomatch e⟩, ⟨hqs, _, rfl⟩, rfl, .inl ⟨rfl, rfl⟩, by first | exact le1 hd h8 | exact le2 hd h8 | exact le3 hd h8 | (rw [List.nil_append, hd]; simp only [List.length_append, List.length_cons, List.length_nil] at h8 ⊢; omega), trivial, by rw [List.nil_append, hd]; exact h13⟩ hmu).1 | exact (hI ⟨_, _, _, _, _, _, _, _, _, q⟩ _ _ _ (by assumption) (by first | assumption | exact news_tl (by assumption)) (by repeat' (first | exact fo_0 | apply fo_n | apply fo_e | apply fo_q)) ⟨.quote c, _, [], fun _ => ⟨rfl, fun e => nomatch e⟩, ⟨hqs, _, rfl⟩, rfl, .inl ⟨rfl, rfl⟩, by first | exact le1 hd h8 | exact le2 hd h8 | exact le3 hd h8 | (rw [List.nil_append, hd]; simp only [List.length_append, List.length_cons, List.length_nil] at h8 ⊢; omega), trivial, by rw [List.nil_append, hd]; exact h13⟩ hmu).2)
                  | false =>
                    cases sp with
                    | true =>
                      replace h13 := w_S h13 hln hws hwc hpn hqs
                      k_steps
                      all_goals (first | exact (hI ⟨_, _, _, _, _, _, _, _, _, q⟩ _ _ _ (by assumption) (by first | assumption | exact news_tl (by assumption)) (by repeat' (first | exact fo_0 | apply fo_n | apply fo_e | apply fo_q)) ⟨.word, [c], [], fun _ => ⟨rfl, fun e => nomatch e⟩, ⟨_, rfl⟩, rfl, .inl ⟨rfl, rfl⟩, by first | exact le1 hd h8 | exact le2 hd h8 | exact le3 hd h8 | (rw [List.nil_append, hd]; simp only [List.length_append, List.length_cons, List.length_nil] at h8 ⊢; omega), ⟨rfl, hq⟩, by rw [List.nil_append, hd]; exact h13⟩ hmu).1 | exact (hI ⟨_, _, _, _, _, _, _, _, _, q⟩ _ _ _ (by assumption) (by first | assumption | exact news_tl (by assumption)) (by repeat' (first | exact fo_0 | apply fo_n | apply fo_e | apply fo_q)) ⟨.word, [c], [], fun _ => ⟨rfl, fun e => nomatch e⟩, ⟨_, rfl⟩, rfl, .inl ⟨rfl, rfl⟩, by first | exact le1 hd h8 | exact le2 hd h8 | exact le3 hd h8 | (rw [List.nil_append, hd]; simp only [List.length_append, List.length_cons, List.length_nil] at h8 ⊢; omega), ⟨rfl, hq⟩, by rw [List.nil_append, hd]; exact h13⟩ hmu).2)
                    | false =>
                      replace h13 := w_O h13 hln hws hwc hpn hqs
                      obtain rfl := Option.some.inj h13
                      k_steps
                      all_goals (exact hB ⟨_, _, _, _, _, _, _, _, _, q⟩ _ _ _ (by assumption) (by first | assumption | exact news_tl (by assumption)) (by repeat' (first | exact fo_0 | apply fo_n | apply fo_e | apply fo_q)) ⟨[c], .white, none, by rw [hd], rfl, by first | exact le4 h8 | exact le5 h8 | exact le6 | (simp only [List.length_append, List.length_cons, List.length_nil] at h8 ⊢; omega), ⟨_, rfl⟩, .inl ⟨rfl, rfl⟩, fun e => ⟨hq e, rfl⟩⟩)
          | word =>
            obtain ⟨hle, hq⟩ := h9
            obtain ⟨ts, rfl⟩ := h5
            (repeat' (first | (k_unfold; (try dsimp only)) | ((fail_if_success (with_reducible show wpAny _ _ (compareOp CmpOp.In (Value.str (Str.mk #[_]) _) _) _ _ _)); (fail_if_success (with_reducible show wpAny _ _ (isTrue (Expr.BoolOp _ _ _) _ _) _ _ _)); walk1)))
            cases hws : (Str.ofString " \t\x0d\n").cps.toList.contains c with
            | true =>
              replace h13 := o_ws h13 hln hws
              obtain rfl := Option.some.inj h13
              k_steps
              all_goals (exact hB ⟨_, _, _, _, _, _, _, _, _, q⟩ _ _ _ (by assumption) (by first | assumption | exact news_tl (by assumption)) (by repeat' (first | exact fo_0 | apply fo_n | apply fo_e | apply fo_q)) ⟨l, .white, none, by rw [hd], rfl, by first | exact le4 h8 | exact le5 h8 | exact le6 | (simp only [List.length_append, List.length_cons, List.length_nil] at h8 ⊢; omega), ⟨_, rfl⟩, .inl ⟨rfl, rfl⟩, fun e => ⟨hq e, hle⟩⟩)
            | false =>
              have hcm : cm.cps.toList.contains c = false := o_cm h13 hws
              walk1
              (repeat' (first | (k_unfold; (try dsimp only)) | ((fail_if_success (with_reducible show wpAny _ _ (compareOp CmpOp.In (Value.str (Str.mk #[_]) _) _) _ _ _)); (fail_if_success (with_reducible show wpAny _ _ (isTrue (Expr.BoolOp _ _ _) _ _) _ _ _)); walk1)))
              walk1
              (repeat' (first | (k_unfold; (try dsimp only)) | ((fail_if_success (with_reducible show wpAny _ _ (compareOp CmpOp.In (Value.str (Str.mk #[_]) _) _) _ _ _)); (fail_if_success (with_reducible show wpAny _ _ (isTrue (Expr.BoolOp _ _ _) _ _) _ _ _)); walk1)))
              have hbq : (false && isQ c) = false := rfl
              refine test_f ?_ (fun tk => ?_)
              ·
                k_steps
                all_goals exact ⟨rfl, _, rfl⟩
              (repeat' (first | (k_unfold; (try dsimp only)) | ((fail_if_success (with_reducible show wpAny _ _ (compareOp CmpOp.In (Value.str (Str.mk #[_]) _) _) _ _ _)); (fail_if_success (with_reducible show wpAny _ _ (isTrue (Expr.BoolOp _ _ _) _ _) _ _ _)); walk1)))
              refine test_f ?_ (fun tk => ?_)
              ·
                k_steps
                all_goals exact ⟨rfl, _, rfl⟩
              (repeat' (first | (k_unfold; (try dsimp only)) | ((fail_if_success (with_reducible show wpAny _ _ (compareOp CmpOp.In (Value.str (Str.mk #[_]) _) _) _ _ _)); (fail_if_success (with_reducible show wpAny _ _ (isTrue (Expr.BoolOp _ _ _) _ _) _ _ _)); walk1)))
              cases he : (wc.cps.toList.contains c || isQ c || (sp && !pu.cps.toList.contains c)) with
              | true =>
                replace h13 := o_W h13 hln hws hbq he
                refine testN (r0 := true) (by assumption) (by assumption) ?_ ?_
                ·
                  cases hwc : wc.cps.toList.contains c with
                  | true =>
                    k_steps
                    all_goals exact ⟨rfl, _, _, rfl, by assumption, by assumption⟩
                  | false =>
                    cases hqs : (Str.ofString "'\"").cps.toList.contains c with
                    | true =>
                      k_steps
                      all_goals exact ⟨rfl, _, _, rfl, by assumption, by assumption⟩
                    | false =>
                      rw [hwc, (show isQ c = false from hqs)] at he
                      have he2 : (sp && !pu.cps.toList.contains c) = true := he
                      rw [Bool.and_eq_true, Bool.not_eq_true'] at he2
                      obtain ⟨rfl, hpn⟩ := he2
                      k_steps
                      all_goals exact ⟨rfl, _, _, rfl, by assumption, by assumption⟩
                ·
                  intro h tk F2 N2
                  k_steps
                  all_goals (first | exact (hI ⟨_, _, _, _, _, _, _, _, _, q⟩ _ _ _ (by assumption) (by first | assumption | exact news_tl (by assumption)) (by repeat' (first | exact fo_0 | apply fo_n | apply fo_e | apply fo_q)) ⟨.word, (l ++ [c]), [], fun _ => ⟨rfl, fun e => nomatch e⟩, ⟨_, rfl⟩, rfl, .inl ⟨rfl, rfl⟩, by first | exact le1 hd h8 | exact le2 hd h8 | exact le3 hd h8 | (rw [List.nil_append, hd]; simp only [List.length_append, List.length_cons, List.length_nil] at h8 ⊢; omega), ⟨by simp, hq⟩, by rw [List.nil_append, hd]; exact h13⟩ hmu).1 | exact (hI ⟨_, _, _, _, _, _, _, _, _, q⟩ _ _ _ (by assumption) (by first | assumption | exact news_tl (by assumption)) (by repeat' (first | exact fo_0 | apply fo_n | apply fo_e | apply fo_q)) ⟨.word, (l ++ [c]), [], fun _ => ⟨rfl, fun e => nomatch e⟩, ⟨_, rfl⟩, rfl, .inl ⟨rfl, rfl⟩, by first | exact le1 hd h8 | exact le2 hd h8 | exact le3 hd h8 | (rw [List.nil_append, hd]; simp only [List.length_append, List.length_cons, List.length_nil] at h8 ⊢; omega), ⟨by simp, hq⟩, by rw [List.nil_append, hd]; exact h13⟩ hmu).2)
              | false =>
                replace h13 := o_O h13 hln hws hbq he
                obtain rfl := Option.some.inj h13
                obtain ⟨⟨hwc, hqs⟩, hsp⟩ : (wc.cps.toList.contains c = false ∧ isQ c = false) ∧ (sp && !pu.cps.toList.contains c) = false := by simpa only [Bool.or_eq_false_iff] using he
                have hqs : (Str.ofString "'\"").cps.toList.contains c = false := hqs
                refine testN (r0 := false) (by assumption) (by assumption) ?_ ?_
                ·
                  cases sp with
                  | true =>
                    have hpn : pu.cps.toList.contains c = true := by simpa only [Bool.true_and, Bool.not_eq_false'] using hsp
                    k_steps
                    all_goals exact ⟨rfl, _, _, rfl, by assumption, by assumption⟩
                  | false =>
                    k_steps
                    all_goals exact ⟨rfl, _, _, rfl, by assumption, by assumption⟩
                ·
                  intro h tk F2 N2
                  rcases hG with ⟨rfl, rfl, rfl⟩ | ⟨hpu, hpl, k19, rfl⟩
                  ·
                    k_steps
                    all_goals (exact hB ⟨_, _, _, _, _, _, _, _, _, q⟩ _ _ _ (by assumption) (by first | assumption | exact news_tl (by assumption)) (by repeat' (first | exact fo_0 | apply fo_n | apply fo_e | apply fo_q)) ⟨l, .white, (some c), by rw [hd], rfl, by first | exact le4 h8 | exact le5 h8 | exact le6 | (simp only [List.length_append, List.length_cons, List.length_nil] at h8 ⊢; omega), ⟨_, rfl⟩, .inr ⟨c, _, rfl, rfl⟩, fun e => ⟨hq e, hle⟩⟩)
                  ·
                    k_steps
                    all_goals (exact hB ⟨_, _, _, _, _, _, _, _, _, q⟩ _ _ _ (by assumption) (by first | assumption | exact news_tl (by assumption)) (by repeat' (first | exact fo_0 | apply fo_n | apply fo_e | apply fo_q)) ⟨l, .white, (some c), by rw [hd], rfl, by first | exact le4 h8 | exact le5 h8 | exact le6 | (simp only [List.length_append, List.length_cons, List.length_nil] at h8 ⊢; omega), ⟨_, rfl⟩, .inr ⟨c, _, rfl, rfl⟩, fun e => ⟨hq e, hle⟩⟩)
          | wordq =>
            simp [re_x, re_nf, re_nw, re_no, re_nx, re_np, re_cf, re_ce] at h13
          | punct =>
            obtain ⟨hle, hq⟩ := h9
            obtain ⟨ts, rfl⟩ := h5
            (repeat' (first | (k_unfold; (try dsimp only)) | ((fail_if_success (with_reducible show wpAny _ _ (compareOp CmpOp.In (Value.str (Str.mk #[_]) _) _) _ _ _)); (fail_if_success (with_reducible show wpAny _ _ (isTrue (Expr.BoolOp _ _ _) _ _) _ _ _)); walk1)))
            cases hws : (Str.ofString " \t\x0d\n").cps.toList.contains c with
            | true =>
              replace h13 := p_ws h13 hln hws
              obtain rfl := Option.some.inj h13
              k_steps
              all_goals (exact hB ⟨_, _, _, _, _, _, _, _, _, q⟩ _ _ _ (by assumption) (by first | assumption | exact news_tl (by assumption)) (by repeat' (first | exact fo_0 | apply fo_n | apply fo_e | apply fo_q)) ⟨l, .white, none, by rw [hd], rfl, by first | exact le4 h8 | exact le5 h8 | exact le6 | (simp only [List.length_append, List.length_cons, List.length_nil] at h8 ⊢; omega), ⟨_, rfl⟩, .inl ⟨rfl, rfl⟩, fun e => ⟨hq e, hle⟩⟩)
            | false =>
              have hcm : cm.cps.toList.contains c = false := p_cm h13 hws
              walk1
              (repeat' (first | (k_unfold; (try dsimp only)) | ((fail_if_success (with_reducible show wpAny _ _ (compareOp CmpOp.In (Value.str (Str.mk #[_]) _) _) _ _ _)); (fail_if_success (with_reducible show wpAny _ _ (isTrue (Expr.BoolOp _ _ _) _ _) _ _ _)); walk1)))
              walk1
              (repeat' (first | (k_unfold; (try dsimp only)) | ((fail_if_success (with_reducible show wpAny _ _ (compareOp CmpOp.In (Value.str (Str.mk #[_]) _) _) _ _ _)); (fail_if_success (with_reducible show wpAny _ _ (isTrue (Expr.BoolOp _ _ _) _ _) _ _ _)); walk1)))
              cases hpn : pu.cps.toList.contains c with
              | true =>
                replace h13 := p_U h13 hln hws hpn
                k_steps
                all_goals (first | exact (hI ⟨_, _, _, _, _, _, _, _, _, q⟩ _ _ _ (by assumption) (by first | assumption | exact news_tl (by assumption)) (by repeat' (first | exact fo_0 | apply fo_n | apply fo_e | apply fo_q)) ⟨.punct, (l ++ [c]), [], (fun e => nomatch (e.symm.trans (contains_ne hpn))), ⟨_, rfl⟩, rfl, .inl ⟨rfl, rfl⟩, by first | exact le1 hd h8 | exact le2 hd h8 | exact le3 hd h8 | (rw [List.nil_append, hd]; simp only [List.length_append, List.length_cons, List.length_nil] at h8 ⊢; omega), ⟨by simp, hq⟩, by rw [List.nil_append, hd]; exact h13⟩ hmu).1 | exact (hI ⟨_, _, _, _, _, _, _, _, _, q⟩ _ _ _ (by assumption) (by first | assumption | exact news_tl (by assumption)) (by repeat' (first | exact fo_0 | apply fo_n | apply fo_e | apply fo_q)) ⟨.punct, (l ++ [c]), [], (fun e => nomatch (e.symm.trans (contains_ne hpn))), ⟨_, rfl⟩, rfl, .inl ⟨rfl, rfl⟩, by first | exact le1 hd h8 | exact le2 hd h8 | exact le3 hd h8 | (rw [List.nil_append, hd]; simp only [List.length_append, List.length_cons, List.length_nil] at h8 ⊢; omega), ⟨by simp, hq⟩, by rw [List.nil_append, hd]; exact h13⟩ hmu).2)
              | false =>
                replace h13 := p_O h13 hln hws hpn
                obtain rfl := Option.some.inj h13
                rcases hG with ⟨rfl, rfl, rfl⟩ | ⟨hpu, hpl, k19, rfl⟩
                · exact absurd rfl (hN emp_S).2
                ·
                  k_steps
                  all_goals (exact hB ⟨_, _, _, _, _, _, _, _, _, q⟩ _ _ _ (by assumption) (by first | assumption | exact news_tl (by assumption)) (by repeat' (first | exact fo_0 | apply fo_n | apply fo_e | apply fo_q)) ⟨l, .white, (some c), by rw [hd], rfl, by first | exact le4 h8 | exact le5 h8 | exact le6 | (simp only [List.length_append, List.length_cons, List.length_nil] at h8 ⊢; omega), ⟨_, rfl⟩, .inr ⟨c, _, rfl, rfl⟩, fun e => ⟨hq e, hle⟩⟩)
          | quote q0 =>
            obtain ⟨hq0, ts, rfl⟩ := h5
            have hsp32 := (isQ_ne hq0).1
            have hq1 : (Str.ofString "'\"").cps.toList.contains q0 = true := hq0
            cases hcq : (c == q0) with
            | true =>
              replace h13 := q_f h13 hln hcq
              obtain rfl := Option.some.inj h13
              k_steps
              all_goals (exact hB ⟨_, _, _, _, _, _, _, _, _, true⟩ _ _ _ (by assumption) (by first | assumption | exact news_tl (by assumption)) (by repeat' (first | exact fo_0 | apply fo_n | apply fo_e | apply fo_q)) ⟨(l ++ [c]), .white, none, by rw [hd], rfl, by first | exact le4 h8 | exact le5 h8 | exact le6 | (simp only [List.length_append, List.length_cons, List.length_nil] at h8 ⊢; omega), ⟨_, rfl⟩, .inl ⟨rfl, rfl⟩, fun e => nomatch e⟩)
            | false =>
              walk1
              (repeat' (first | (k_unfold; (try dsimp only)) | ((fail_if_success (with_reducible show wpAny _ _ (compareOp CmpOp.In (Value.str (Str.mk #[_]) _) _) _ _ _)); (fail_if_success (with_reducible show wpAny _ _ (isTrue (Expr.BoolOp _ _ _) _ _) _ _ _)); walk1)))
              walk1
              (repeat' (first | (k_unfold; (try dsimp only)) | ((fail_if_success (with_reducible show wpAny _ _ (compareOp CmpOp.In (Value.str (Str.mk #[_]) _) _) _ _ _)); (fail_if_success (with_reducible show wpAny _ _ (isTrue (Expr.BoolOp _ _ _) _ _) _ _ _)); walk1)))
              replace h13 := q_c h13 hln hcq rfl
              refine test_f ?_ (fun tk => ?_)
              ·
                k_steps
                all_goals exact ⟨rfl, _, rfl⟩
              ·
                k_steps
                all_goals (first | exact (hI ⟨_, _, _, _, _, _, _, _, _, true⟩ _ _ _ (by assumption) (by first | assumption | exact news_tl (by assumption)) (by repeat' (first | exact fo_0 | apply fo_n | apply fo_e | apply fo_q)) ⟨.quote q0, (l ++ [c]), [], fun _ => ⟨rfl, fun e => nomatch e⟩, ⟨hq0, _, rfl⟩, rfl, .inl ⟨rfl, rfl⟩, by first | exact le1 hd h8 | exact le2 hd h8 | exact le3 hd h8 | (rw [List.nil_append, hd]; simp only [List.length_append, List.length_cons, List.length_nil] at h8 ⊢; omega), trivial, by rw [List.nil_append, hd]; exact h13⟩ hmu).1 | exact (hI ⟨_, _, _, _, _, _, _, _, _, true⟩ _ _ _ (by assumption) (by first | assumption | exact news_tl (by assumption)) (by repeat' (first | exact fo_0 | apply fo_n | apply fo_e | apply fo_q)) ⟨.quote q0, (l ++ [c]), [], fun _ => ⟨rfl, fun e => nomatch e⟩, ⟨hq0, _, rfl⟩, rfl, .inl ⟨rfl, rfl⟩, by first | exact le1 hd h8 | exact le2 hd h8 | exact le3 hd h8 | (rw [List.nil_append, hd]; simp only [List.length_append, List.length_cons, List.length_nil] at h8 ⊢; omega), trivial, by rw [List.nil_append, hd]; exact h13⟩ hmu).2)
          | esc =>
            simp [re_nf, re_nw, re_no, re_nx, re_np, re_cf, re_ce] at h13
  · rintro ⟨sv', ln', tl', tok, tt', pos', tp', pcv', pcn', q⟩ u h tk ⟨tok', st', push, e, h6, h7, h8, h9, h10⟩ F2 N2
    dsimp only at e h6 h8 h9 h10 N2 F2
    subst h6
    k_steps
    all_goals (exact hQ _ _ _ _ _ _ _ _ _ _ _ _ _ _ _ (by assumption) (by assumption) e h8 h9 rfl)
end
end Mine

end
section
namespace Mine
/-- the signs of a word where there is punctuation, before it is taken out -/
def WL (b : Bool) : List Nat := (WC b).cps.toList ++ (Str.ofString "~-./*?=").cps.toList
def WP (b : Bool) : Str := S ((WL b).filter fun c => !(Str.ofString "();<>|&").cps.toList.contains c)
def WPU (pu : Str) : Str := S ((WL false).filter fun c => !pu.cps.toList.contains c)
theorem wl_len (b : Bool) : (WL b).length ≤ 1000 ∧ WL b ≠ [] := by
  cases b <;> decide +kernel
theorem wc_add {w : World} {A : Around} {E : Value → Shared → Prop} {s : Shared} {Q : Value → Shared → Prop} {b : Bool} {t u : Tok} (h : ∀ t' k, Q (.str (S (WL b)) t') { s with toks := k }) :
    wpAny (model prog w) A (inplaceOp .Add (.str (WC b) t) (.str (Str.ofString "~-./*?=") u)) Q E s := by
  refine PyProof.Rows.iadd_str (fun t' k => ?_) ?_
  · have e : WC b ++ Str.ofString "~-./*?=" = S (WL b) := by cases b <;> decide +kernel
    rw [e]; exact h t' k
  · cases b <;> decide +kernel
section
variable {w : World} {A : Around} {E : Value → Shared → Prop} {Q : Flow → Shared → Prop} {s : Shared} {env : Env} {h₀ h : Heap} {L lx : Addr} {m : Str → Option Value} {tk : Nat} {pu : Str} {news : List (Addr × Obj)}
def CtQ (h₀ : Heap) (L : Addr) (s : Shared) (pu : Str) (lx : Addr) (news : List (Addr × Obj)) (s' : Shared) : Prop :=
  ∃ h' tk t m', s' = { s with heap := h', toks := tk } ∧ Fr h₀ L h' m' ∧ News h₀ L h' news ∧ m' (Str.ofString "self") = some (.ref lx) ∧ m' (Str.ofString "punctuation_chars") = some (.str pu t)
theorem ct_pu {st : Stmt} {rest : List Stmt} (F : Fr h₀ L h m) (N : News h₀ L h news) (_ : m (Str.ofString "self") = some (.ref lx))
    (h1 : Fr h₀ L h m → News h₀ L h news → wpAny (model prog w) A (exec st env) (fun f s' => match f with | .next => CtQ h₀ L s pu lx news s' | f => Q f s') E { s with heap := h, toks := tk })
    (h2 : ∀ h' tk t m', Fr h₀ L h' (kstB m' [(Str.ofString "self", .ref lx), (Str.ofString "punctuation_chars", .str pu t)]) → News h₀ L h' news → wpAny (model prog w) A (execs rest env) Q E { s with heap := h', toks := tk }) :
    wpAny (model prog w) A (execs (st :: rest) env) Q E { s with heap := h, toks := tk } :=
  execs_mid (CtQ h₀ L s pu lx news) (h1 F N) (by
    rintro s' ⟨h', tk, t, m', rfl, c2, c3, c4, c5⟩
    obtain ⟨m'', c6⟩ := kst_intro (ps := [(Str.ofString "self", .ref lx), (Str.ofString "punctuation_chars", .str pu t)]) c2 (by
      intro p hp
      rcases List.mem_cons.mp hp with rfl | hp
      · exact c4
      · rw [List.mem_singleton.mp hp]; exact c5)
    exact h2 h' tk t m'' c6 c3)
end
end Mine
local macro_rules | `(tactic| walk_at "truthy str") => `(tactic| (k_here; (with_reducible refine' Mine.truthy_ne ?e ?l ?_); (case e => with_reducible assumption); (case l => with_reducible assumption); k_whole; (try dsimp only)))
namespace Mine
section
variable {w : World} {A : Around} {E : Value → Shared → Prop} {s : Shared} {K : Frag} {x C dx L : Addr} {h₀ : Heap} {m : Str → Option Value} {news news' : List (Addr × Obj)} {ox : Obj} {es es' : List DictEntry} {n n' : Nat} {name : Str} {v : Value}
/-- an attribute stored; the count of tokens is forgotten -/
theorem set_dictK {Q : Unit → Shared → Prop} (F : Fr h₀ L s.heap m) (X₀ : K.In h₀) (N : News h₀ L s.heap news) (I : InstAt s.heap x ox C (some (dictOf es n))) (hd : ox.dict = some dx)
    (hs : findIn K (.ref C) "__setattr__" = some (some (.builtin "object.__setattr__"))) (hp : plainOver K C = true) (ht : takerIn K C name = some none) (hh : hasDictIn K C = true) (hl : (getL name es).isSome = true)
    (e : (putL name (PyData.keyHash w.params name) (.str name (s.toks + 1)) v es, putN name es n) = (es', n')) (U : Upd dx (dictOf es n) (dictOf es' n') news news') (hz : es'.length ≤ 1000)
    (h : ∀ h' k, Fr h₀ L h' m → News h₀ L h' news' → Q () { s with heap := h', toks := k }) :
    wpAny (model prog w) A (setAttr (.ref x) name v) Q E s := set_dict F X₀ N I hd hs hp ht hh hl e U hz fun h' => h h' _
end
end Mine
local macro_rules | `(tactic| walk_at "setAttr ref") => `(tactic| (k_here; k_dflt (refine' Mine.set_dictK (by k_asm) (by k_asm) (by k_asm) (by k_inst) (by exact rfl) (by k_is) (by k_is) (by k_is) (by k_is) (by k_get) (by k_put) (by k_upd) (by exact Nat.le_of_ble_eq_true rfl) ?_; k_whole; intro h' k' F' N'; (try dsimp only at N'); (try k_sweep))))
local macro_rules | `(tactic| k_all) => `(tactic| exact Mine.allLt_ne (by with_reducible assumption))
local macro_rules | `(tactic| walk_at "call type:collections.deque") => `(tactic| (k_here; k_dflt (refine' Mine.dq_new (by k_asm) (by k_asm) ?_; k_whole); intro q' h' F' N' l1; (try k_lt l1); (try k_sweep)))
namespace Mine
section
variable {w : World} {A₀ : Around} {base h₀ : Heap} {outer : List Env} {L : Addr} {m mg mb : Str → Option Value} {loose : List Str} {mean : ExcName → Option Value} {s : Shared} {Q E : Value → Shared → Prop} {p : Program}
  {hdl : Option Value} {d u : Nat} {gs : Option (List Code)} {rest : List (Addr × Obj)} {ns : List (Str × NameKind)} {ig ic : Bool} {mo : List (Str × Const)} {gl bi : Addr} {cs : List (Str × Addr)} {qn : Str} {fo : Option Addr} {cdv : Value}
theorem ctorP_ord {h : Heap} {z a b c d e f g : Addr × Obj} {rest : List (Addr × Obj)} (N : News h₀ L h (z :: g :: f :: c :: a :: b :: d :: e :: rest)) : News h₀ L h (a :: b :: g :: d :: e :: c :: f :: rest) := by
  intro q hq
  refine N q ?_
  (repeat' (rcases List.mem_cons.mp hq with rfl | hq))
  all_goals (repeat (first | exact List.Mem.head _ | exact hq | refine List.Mem.tail _ ?_))
theorem ctor1 {x pu : Str} {pv : Value} {tk : Tok}
  (B : Below A₀ base outer h₀) (F : Fr h₀ L s.heap m) (X : (hd.heap_1 w.params).In h₀) (T : Top p loose mean mg mb h₀) (hdp : d < 900) (hun : u < 9000)
  (hx : x.length ≤ 100000) (hpe : pu.cps.toList.isEmpty = false) (hpl : pu.length ≤ 100000) (hps : pu.cps.size ≤ 100) (hpt : pu.cps.toList.length ≤ 100) (hpa : pu.cps.all (· < 128) = true) (hpv : (pv = .bool true ∧ pu = Str.ofString "();<>|&") ∨ ∃ t, pv = .str pu t)
  (N : News h₀ L s.heap rest)
  (hP : ∀ lx dx io iod pb fs pc h' kt T k19 ev t1 ts tl tt k, Fr h₀ L h' m → EV false ev → @LT.lt Nat _ dx lx → @LT.lt Nat _ lx iod → @LT.lt Nat _ iod io → @LT.lt Nat _ io pb → @LT.lt Nat _ pb fs → @LT.lt Nat _ fs pc → AllLt dx rest → AllLt iod rest → AllLt pb rest → AllLt fs rest → AllLt pc rest → 
    News h₀ L h' ((io, instObj 587 iod) :: (iod, ioD w.params kt x 0 t1) :: (pc, dqO [] 0) :: (lx, instObj 722 dx) ::
      (dx, lexP w.params T k19 false false ev (Str.ofString "#") (WPU pu) pu pb fs io pc .none (.str (Str.ofString " ") ts) 1 tl (Str.ofString "") tt) :: (pb, dqO [] 0) :: (fs, dqO [] 0) :: rest) → Q (.ref lx) { s with heap := h', toks := k })
  : wpAny (model prog w) (ar none d (fenv ns ig ic mo gl cs qn fo cdv bi L :: outer) gs u) (call (.ref 722) [.str x tk] [(Str.ofString "punctuation_chars", pv)]) Q E s := by
  have hwl := (wl_len false).1
  have hw0 := (wl_len false).2
  (repeat' (first | (k_unfold; (try dsimp only)) | ((fail_if_success (with_reducible show wpAny _ _ (call (Value.ref 587) [Value.str _ _]) _ _ _)); walk1)))
  k_dflt (refine' Mine.io_make (by k_asm) (by k_asm) (by k_asm) (by k_asm) (by k_room) (by k_units) (by assumption) (by k_asm) ?_; k_whole)
  intro io' iod' h' kt' t' k' F' N' l1 l2
  (try simp only [AllLt, and_true] at l1)
  (try k_sweep)
  (repeat' (first | (k_unfold; (try dsimp only)) | ((fail_if_success (with_reducible show wpAny _ _ (execs ((Stmt.If (Expr.Name ("posix" : Str) _) _ _ _) :: _) _) _ _ _)); walk1)))
  refine post_genF ?_
  intro Qv hQv
  (repeat' (first | (k_unfold; (try dsimp only)) | ((fail_if_success (with_reducible show wpAny _ _ (execs ((Stmt.If (Expr.UnaryOp _ _ _) _ _ _) :: _) _) _ _ _)); walk1)))
  (with_reducible rename Fr _ _ _ _ => kF)
  (with_reducible rename News _ _ _ _ => kN)
  refine ct_pu (pu := pu) kF kN rfl ?_ ?_
  · clear kF kN
    intro kF kN
    rcases hpv with ⟨rfl, rfl⟩ | ⟨tp, rfl⟩
    · k_steps
      all_goals exact ⟨_, _, _, _, rfl, by assumption, by assumption, rfl, rfl⟩
    · k_steps
      all_goals exact ⟨_, _, _, _, rfl, by assumption, by assumption, rfl, rfl⟩
  · clear kF kN
    intro h' tk t m9 kF kN
    (repeat' (first | (k_unfold; (try dsimp only)) | ((fail_if_success (with_reducible show wpAny _ _ (inplaceOp Operator.Add (Value.str _ _) _) _ _ _)); walk1)))
    k_dflt (refine' Mine.wc_add (b := false) ?_)
    intro t' k'
    (try dsimp only)
    (repeat' (first | (k_unfold; (try dsimp only)) | ((fail_if_success (with_reducible show wpAny _ _ (getMethod (Value.str _ _) _ _) _ _ _)); walk1)))
    k_dflt (refine' Mine.mt_getm ?_)
    intro tk'
    (try dsimp only)
    (repeat' (first | (k_unfold; (try dsimp only)) | ((fail_if_success (with_reducible show wpAny _ _ (getMethod (Value.type "dict") _ _) _ _ _)); walk1)))
    k_dflt (refine' Mine.fk_getm (by k_asm) (by k_asm) (by k_asm) (by k_is) ?_; k_whole)
    intro x' h' F' N' l1
    (try k_lt l1)
    (try k_sweep)
    (repeat' (first | (k_unfold; (try dsimp only)) | ((fail_if_success (with_reducible show wpAny _ _ (callWith _ (Value.ref _) _ (backTo _ (starEach (_ :: _) _)) []) _ _ _)); walk1)))
    k_dflt (refine' Mine.fk_callWith (by k_asm) (by k_mem) ?_; k_whole)
    (repeat' (first | (k_unfold; (try dsimp only)) | ((fail_if_success (with_reducible show Mine.FbAt _ _ ∧ _)); walk1)))
    refine' ⟨News.get (by k_asm) (by k_mem), ?_⟩
    (try dsimp only [List.nil_append, List.cons_append])
    (repeat' (first | (k_unfold; (try dsimp only)) | ((fail_if_success (with_reducible show wpAny _ _ (call (Value.ref _) [Value.str _ _]) _ _ _)); walk1)))
    k_dflt (refine' Mine.fk_callN (by k_asm) (by k_asm) (by k_mem) (Top.nolimit (by k_asm)) (by rfl) (by first | with_reducible assumption | decide +kernel) (by first | with_reducible assumption | decide +kernel) ?_; k_whole)
    intro D' o' h' tk' kvs' F' N' l1 hfk'
    (try k_lt l1)
    (try k_sweep)
    (repeat' (first | (k_unfold; (try dsimp only)) | ((fail_if_success (with_reducible show wpAny _ _ (call (Value.builtin "str.maketrans") _) _ _ _)); walk1)))
    k_dflt (refine' Mine.mt_callN (by k_asm) (by k_asm) (Top.nolimit (by k_asm)) (by assumption) (by first | with_reducible assumption | decide +kernel) ?_; k_whole)
    intro T' o' h' tk' ik' F' N' l1 hmt'
    (try k_lt l1)
    (try k_sweep)
    (repeat' (first | (k_unfold; (try dsimp only)) | ((fail_if_success (with_reducible show wpAny _ _ (getMethod (Value.str _ _) _ _) _ _ _)); walk1)))
    (with_reducible refine Mine.tr_getm ?_)
    (repeat' (first | (k_unfold; (try dsimp only)) | ((fail_if_success (with_reducible show wpAny _ _ (call (Value.builtin "str.translate") _) _ _ _)); walk1)))
    k_dflt (refine' Mine.tr_callN (by k_asm) (by k_asm) (by assumption) (by rfl) (by with_reducible assumption) (by with_reducible assumption) ?_; k_whole)
    intro h' tk' t' F' N'
    (try dsimp only)
    (try k_sweep)
    k_steps
    refine hQv _ _ ?_
    k_steps
    rename News h₀ L _ _ => kN9
    rename Fr h₀ L _ m => kF9
    rename ∀ p, p ∈ rest → _ => hl0
    replace hl0 := allLt_of hl0
    rename _ ∧ _ ∧ _ ∧ _ ∧ _ ∧ _ ∧ AllLt _ rest => hl4
    rename _ ∧ _ ∧ _ ∧ _ ∧ _ ∧ AllLt _ rest => hl1
    rename _ ∧ _ ∧ _ ∧ _ ∧ AllLt _ rest => hl2
    rename _ ∧ _ ∧ AllLt _ rest => hl3
    refine hP _ _ _ _ _ _ _ _ _ ⟨_, _, _, _, _, _, _, _, _, _, _, _, _, _, _, _, _, _, _, _, _, _, _, _, _, _, _⟩ _ _ _ _ _ _ _ kF9 ⟨_, rfl⟩ ?f2 ?f3 ?f4 ?f5 ?f6 ?f6a ?f7 ?f8 ?f9 ?f10 ?f11 (ctorP_ord kN9)
    all_goals first | assumption | exact hl4.1 | exact hl1.1 | exact hl1.2.1 | exact hl2.1 | exact hl3.1 | exact hl3.2.2 | exact hl2.2.2.2.2 | exact hl1.2.2.2.2.2 | exact hl4.2.2.2.2.2.2
end
end Mine

end
section
namespace Mine
def Wz (pu : Str) (c : Nat) : Bool := (WPU pu).cps.toList.contains c
def Uz (pu : Str) (c : Nat) : Bool := pu.cps.toList.contains c
/-- the letters of _law_goes_on -/
abbrev Lz : Str := Str.ofString "abcdefghijklmnopqrstuvwxyzABCDEFGHIJKLMNOPQRSTUVWXYZ0123456789" ++ Str.ofString "_~-./*?='\""
theorem wz_eq {pu : Str} {c : Nat} : Wz pu c = ((WL false).contains c && !Uz pu c) := by
  unfold Wz WPU Uz
  rw [Bool.eq_iff_iff]
  simp [S, List.mem_filter]
theorem wl_facts : ∀ c ∈ WL false, isWs c = false ∧ isQ c = false := by decide +kernel
theorem lz_wl : (∀ c ∈ Lz.cps.toList, (WL false).contains c = true ∨ isQ c = true) ∧ (∀ c ∈ WL false, Lz.cps.toList.contains c = true) ∧ (∀ c ∈ (Str.ofString "'\"").cps.toList, Lz.cps.toList.contains c = true ∧ isWs c = false) := by decide +kernel
theorem zf_of {pu : Str} (h : ∀ c ∈ pu.cps.toList, isWs c = false ∧ isQ c = false) : ZF (Wz pu) (Uz pu) where
  wu c hc := by
    rw [wz_eq] at hc
    simp only [Bool.and_eq_true, Bool.not_eq_true'] at hc
    exact hc.2
  uw c hc := (h c (List.contains_iff_mem.mp hc)).1
  uq c hc := (h c (List.contains_iff_mem.mp hc)).2
  ww c hc := by
    rw [wz_eq] at hc
    simp only [Bool.and_eq_true] at hc
    exact (wl_facts c (List.contains_iff_mem.mp hc.1)).1
  wq c hc := by
    rw [wz_eq] at hc
    simp only [Bool.and_eq_true] at hc
    exact (wl_facts c (List.contains_iff_mem.mp hc.1)).2
  qw c hc := (lz_wl.2.2 c (List.contains_iff_mem.mp hc)).2
theorem lz_is (c : Nat) : Lz.cps.toList.contains c = ((WL false).contains c || isQ c) := by
  rw [Bool.eq_iff_iff, Bool.or_eq_true]
  constructor
  · intro h
    exact lz_wl.1 c (List.contains_iff_mem.mp h)
  · rintro (h | h)
    · exact lz_wl.2.1 c (List.contains_iff_mem.mp h)
    · exact (lz_wl.2.2 c (List.contains_iff_mem.mp h)).1
/-- _law_goes_on's answer -/
theorem goz_law {pu : Str} {sp : Bool} {c : Nat} : goz sp (Wz pu) (Uz pu) c = (if isWs c then false else if Uz pu c then false else (sp || Lz.cps.toList.contains c)) := by
  unfold goz
  rw [wz_eq, lz_is]
  cases isWs c <;> cases Uz pu c <;> cases sp <;> cases (WL false).contains c <;> cases isQ c <;> rfl
end Mine

end
namespace Mine
/-- the punctuation that the law draws -/
def pu1 (cs : List Nat) : Str := if cs.isEmpty then Str.ofString "();<>|&" else S cs
theorem sg_facts : (∀ c ∈ (Str.ofString "|&;(>a=-$?").cps.toList, isWs c = false ∧ isQ c = false ∧ c < 128) ∧ (∀ c ∈ (Str.ofString "();<>|&").cps.toList, isWs c = false ∧ isQ c = false ∧ c < 128) := by decide +kernel
theorem pu1_signs {cs : List Nat} (h : ∀ c ∈ cs, c ∈ (Str.ofString "|&;(>a=-$?").cps.toList) : ∀ c ∈ (pu1 cs).cps.toList, isWs c = false ∧ isQ c = false ∧ c < 128 := by
  unfold pu1
  cases cs with
  | nil => exact sg_facts.2
  | cons a r =>
    intro c hc
    have : c ∈ (S (a :: r)).cps.toList := hc
    rw [s_cps] at this
    exact sg_facts.1 c (h c this)
theorem pu1_zf {cs : List Nat} (h : ∀ c ∈ cs, c ∈ (Str.ofString "|&;(>a=-$?").cps.toList) : ZF (Wz (pu1 cs)) (Uz (pu1 cs)) := zf_of fun c hc => ⟨(pu1_signs h c hc).1, (pu1_signs h c hc).2.1⟩
theorem pu1_ascii {cs : List Nat} (h : ∀ c ∈ cs, c ∈ (Str.ofString "|&;(>a=-$?").cps.toList) : (pu1 cs).cps.all (· < 128) = true := by
  rw [Array.all_eq_true_iff_forall_mem]
  intro c hc
  exact decide_eq_true (pu1_signs h c (Array.mem_toList_iff.mpr hc)).2.2
theorem pu1_len {cs : List Nat} (h : cs.length ≤ 10) : (pu1 cs).cps.size ≤ 10 ∧ (pu1 cs).cps.toList.isEmpty = false := by
  unfold pu1
  cases cs with
  | nil => decide +kernel
  | cons a r =>
    show (S (a :: r)).cps.size ≤ 10 ∧ (S (a :: r)).cps.toList.isEmpty = false
    rw [s_size, s_cps]
    exact ⟨h, rfl⟩
theorem pu1_nil : pu1 [] = Str.ofString "();<>|&" := rfl
theorem pu1_cons {a : Nat} {r : List Nat} : pu1 (a :: r) = S (a :: r) := rfl
section
variable {w : World} {A : Around} {E : Value → Shared → Prop} {s : Shared} {Q : Value → Shared → Prop}
theorem ne_S1 {l : List Nat} {t u : Tok} {b : Bool} (e : l.isEmpty = b) (h : Q (.bool (!b)) s) : wpAny (model prog w) A (compareOp .NotEq (.str (S l) t) (.str (Str.ofString "") u)) Q E s := by
  refine P.ne_str ?_
  have : ((S l).cps.toList == (Str.ofString "").cps.toList) = b := by
    subst e
    rw [S_nil]
    cases l <;> simp [S]
  show Q (.bool (!((S l).cps.toList == (Str.ofString "").cps.toList))) s
  rw [this]; exact h
theorem ne_Sn {t u : Tok} (h : Q (.bool false) s) : wpAny (model prog w) A (compareOp .NotEq (.str (S []) t) (.str (Str.ofString "") u)) Q E s := ne_S1 (b := true) rfl h
theorem ne_Sc {c : Nat} {r : List Nat} {t u : Tok} (h : Q (.bool true) s) : wpAny (model prog w) A (compareOp .NotEq (.str (S (c :: r)) t) (.str (Str.ofString "") u)) Q E s := ne_S1 (b := false) rfl h
theorem eq_Sn {t u : Tok} (h : Q (.bool true) s) : wpAny (model prog w) A (compareOp .Eq (.str (S []) t) (.str (Str.ofString "") u)) Q E s := eq_S (b := true) rfl h
theorem eq_Sc {c : Nat} {r : List Nat} {t u : Tok} (h : Q (.bool false) s) : wpAny (model prog w) A (compareOp .Eq (.str (S (c :: r)) t) (.str (Str.ofString "") u)) Q E s := eq_S (b := false) rfl h
end
end Mine

section
local macro_rules | `(tactic| walk_at "compareOp In str str") => `(tactic| (k_here; (with_reducible show wpAny _ _ (compareOp CmpOp.In (Value.str (Str.mk #[_]) _) _) _ _ _); (with_reducible refine' Mine.in_ch ?e ?_); (case e => first | with_reducible assumption | rfl); k_whole))
namespace Mine
section
variable {w : World} {A₀ : Around} {base h₀ : Heap} {outer : List Env} {L : Addr} {m mg mb : Str → Option Value} {loose : List Str} {mean : ExcName → Option Value} {s : Shared} {Q E : Value → Shared → Prop} {p : Program}
  {hdl : Option Value} {d u : Nat} {gs : Option (List Code)} {rest : List (Addr × Obj)} {ns : List (Str × NameKind)} {ig ic : Bool} {mo : List (Str × Const)} {gl bi : Addr} {cs : List (Str × Addr)} {qn : Str} {fo : Option Addr} {cdv : Value}
theorem goes1 {c : Nat} {tc tp : Tok} {pu : Str} {sp : Bool}
  (B : Below A₀ base outer h₀) (F : Fr h₀ L s.heap m) (X : (hd.heap_1 w.params).In h₀) (T : Top p loose mean mg mb h₀) (hdp : d < 980) (hun : u < 9800)
  (N : News h₀ L s.heap rest)
  (hQ : ∀ h' k, Fr h₀ L h' m → News h₀ L h' rest → Q (.bool (goz sp (Wz pu) (Uz pu) c)) { s with heap := h', toks := k })
  : wpAny (model prog w) (ar hdl d (fenv ns ig ic mo gl cs qn fo cdv bi L :: outer) gs u) (call (.ref 740) [.str ⟨#[c]⟩ tc, .str pu tp, .bool sp]) Q E s := by
  rw [goz_law] at hQ
  refine wpAny_call ?_
  k_enter
  cases hw : isWs c with
  | true =>
    rw [hw] at hQ
    simp only [if_true] at hQ
    have hw' : (Str.ofString " \t\x0d\n").cps.toList.contains c = true := hw
    k_steps
    all_goals exact hQ _ _ (by assumption) (by assumption)
  | false =>
    rw [hw] at hQ
    have hw' : (Str.ofString " \t\x0d\n").cps.toList.contains c = false := hw
    cases hu : Uz pu c with
    | true =>
      rw [hu] at hQ
      have hu' : pu.cps.toList.contains c = true := hu
      k_steps
      all_goals exact hQ _ _ (by assumption) (by assumption)
    | false =>
      rw [hu] at hQ
      have hu' : pu.cps.toList.contains c = false := hu
      simp only [Bool.false_eq_true, if_false] at hQ
      cases sp with
      | true =>
        k_steps
        all_goals exact hQ _ _ (by assumption) (by assumption)
      | false =>
        cases hl : Lz.cps.toList.contains c with
        | true =>
          rw [hl] at hQ
          k_steps
          all_goals exact hQ _ _ (by assumption) (by assumption)
        | false =>
          rw [hl] at hQ
          k_steps
          all_goals exact hQ _ _ (by assumption) (by assumption)
end
end Mine

end
section
namespace Mine
section
variable {prog' : Program} {w : World} {A : Around} {E : Value → Shared → Prop} {s : Shared} {Q : Value → Shared → Prop} {x y : Str} {c : Nat} {b : Bool} {t u : Tok}
theorem in_it (he : x = ⟨#[c]⟩) (e : y.cps.toList.contains c = b) (h : Q (.bool b) s) : wpAny (model prog' w) A (compareOp .In (.str x t) (.str y u)) Q E s := by
  subst he; exact in_ch e h
theorem notin_it (he : x = ⟨#[c]⟩) (e : y.cps.toList.contains c = b) (h : Q (.bool (!b)) s) : wpAny (model prog' w) A (compareOp .NotIn (.str x t) (.str y u)) Q E s := by
  subst he; exact notin_ch e h
end
theorem len_S {w : World} {A : Around} {E : Value → Shared → Prop} {s : Shared} {Q : Value → Shared → Prop} {l : List Nat} {t : Tok} (hl : l.length ≤ 100000) (h : ∀ t' k, Q (.int l.length t') { s with toks := k }) : wpAny (model prog w) A (call (.builtin "len") [.str (S l) t]) Q E s := by
  refine P.len_str ?_ ?_
  · rw [s_len]; omega
  · rw [s_len]; exact h _ _
def one (c : Nat) : Str := ⟨#[c]⟩
def oneU (pu : Str) (y : Str) : Bool := !(Uz pu (y.cps.toList.headD 0))
def oneG (sp : Bool) (pu : Str) (y : Str) : Bool := !(goz sp (Wz pu) (Uz pu) (y.cps.toList.headD 0))
theorem sign_one1 {l : List Nat} : ∀ i v, SignAt (S l) i v → ∃ y t, (l.map one)[i]? = some y ∧ v = .str y t := by
  rintro i v ⟨c, t, e, rfl⟩
  refine ⟨one c, t, ?_, rfl⟩
  have : l[i]? = some c := by simpa [S] using e
  rw [List.getElem?_map, this]; rfl
theorem size_one (l : List Nat) : (S l).cps.size = (l.map one).length := by simp [S]
end Mine
local macro_rules | `(tactic| walk_at "compareOp Eq str str") => `(tactic| (k_here; (with_reducible show wpAny _ _ (compareOp CmpOp.Eq (Value.str (Mine.S _) _) (Value.str (Str.ofString "") _)) _ _ _); (with_reducible refine' Mine.eq_S ?e ?_); (case e => with_reducible assumption); k_whole))
local macro_rules | `(tactic| walk_at "compareOp In str str") => `(tactic| (k_here; (with_reducible show wpAny _ _ (compareOp CmpOp.In (Value.str (Str.mk #[_]) _) _) _ _ _); (with_reducible refine' Mine.in_ch ?e ?_); (case e => first | with_reducible assumption | rfl); k_whole))
local macro_rules | `(tactic| walk_at "compareOp NotIn str str") => `(tactic| (k_here; (with_reducible show wpAny _ _ (compareOp CmpOp.NotIn (Value.str (Str.mk #[_]) _) _) _ _ _); (with_reducible refine' Mine.notin_ch ?e ?_); (case e => first | with_reducible assumption | rfl); k_whole))
local macro_rules | `(tactic| walk_at "compareOp In str str") => `(tactic| (k_here; (with_reducible refine' Mine.in_it ?h ?e ?_); (case h => exact Mine.item0 _ _); (case e => with_reducible assumption); k_whole))
local macro_rules | `(tactic| walk_at "compareOp NotIn str str") => `(tactic| (k_here; (with_reducible refine' Mine.notin_it ?h ?e ?_); (case h => exact Mine.item0 _ _); (case e => with_reducible assumption); k_whole))
namespace Mine
open PySem.Calls PyProof.Rows.LCg PyProof.Rows.LCt
section
variable {w : World} {A₀ : Around} {base h₀ : Heap} {outer : List Env} {L : Addr} {m mg mb : Str → Option Value} {loose : List Str} {mean : ExcName → Option Value} {s : Shared} {Q E : Value → Shared → Prop} {p : Program}
  {hdl : Option Value} {d u : Nat} {gs : Option (List Code)} {rest : List (Addr × Obj)} {ns : List (Str × NameKind)} {ig ic : Bool} {mo : List (Str × Const)} {gl bi : Addr} {cs : List (Str × Addr)} {qn : Str} {fo : Option Addr} {cdv : Value}
theorem stands1 {c : Nat} {r a : List Nat} {tt ta tp : Tok} {pu : Str} {sp : Bool}
  (B : Below A₀ base outer h₀) (F : Fr h₀ L s.heap m) (X : (hd.heap_1 w.params).In h₀) (T : Top p loose mean mg mb h₀) (hdp : d < 900) (hun : u < 9000)
  (hl : (c :: r).length ≤ 1000) (ha : a.length ≤ 1000) (hs : standz sp (Wz pu) (Uz pu) (c :: r) a)
  (N : News h₀ L s.heap rest)
  (hQ : ∀ h' k, Fr h₀ L h' m → News h₀ L h' rest → Q (.bool true) { s with heap := h', toks := k })
  : wpAny (model prog w) (ar none d (fenv ns ig ic mo gl cs qn fo cdv bi L :: outer) gs u) (call (.ref 745) [.str (S (c :: r)) tt, .str (S a) ta, .str pu tp, .bool sp]) Q E s := by
  have hlen : (S (c :: r)).length = r.length + 1 := by rw [s_len]; rfl
  refine wpAny_call ?_
  k_enter
  cases hu : Uz pu c with
  | true =>
    have hu' : pu.cps.toList.contains c = true := hu
    obtain ⟨hs1, hs2⟩ := stand_U hs hu
    (repeat' (first | (k_unfold; (try dsimp only)) | ((fail_if_success (with_reducible show wpAny _ _ (eval (Expr.ListComp _ _ _ _) _) _ _ _)); walk1)))
    k_dflt (refine Mine.lc_str (by k_asm) (by with_unfolding_all rfl) (by decide) (by rfl) (by decide) (by rfl) ?_)
    (repeat' (first | (k_unfold; (try dsimp only)) | ((fail_if_success (with_reducible show Mine.SrcS _ _ _ _ _ _ _ _ _ _ _ _ _ _)); walk1)))
    k_dflt (refine Mine.srcS (by rfl) (by k_asm) (by k_asm) ?hz ?_)
    case hz => rw [s_size, sizeLine_eq]; omega
    intro g
    rw [size_one]
    refine flt_rest ((c :: r).map one) (oneU pu) sign_one1 ?_ ?_
    · intro y t I oI C oC D m₂ ys h tk E' hy hC hx F' N' off ne
      obtain ⟨x, hx1, rfl⟩ := List.mem_map.mp hy
      have hux : pu.cps.toList.contains x = true := hs1 x hx1
      have hf : oneU pu (one x) = false := by show (!(Uz pu x)) = false; rw [hs1 x hx1]; rfl
      unfold one at hx
      k_steps
      all_goals exact CompEnd.intro (by assumption) (by assumption) _ (fun p hp => hp) (by assumption) trivial ⟨rfl, hf⟩
    · intro ys hys
      have hfl : ((c :: r).map one).filter (oneU pu) = [] := by
        rw [List.filter_eq_nil_iff]
        intro y hy
        obtain ⟨x, hx1, rfl⟩ := List.mem_map.mp hy
        show ¬ (!(Uz pu x)) = true
        rw [hs1 x hx1]; exact Bool.false_ne_true
      rw [hfl] at hys
      cases hys
      intro D h tk F' N' off
      cases a with
      | nil =>
        have he : ([] : List Nat).isEmpty = true := rfl
        k_steps
        all_goals ((rename News h₀ L _ _ => kN9); exact hQ _ _ (by assumption) (fun p hp => kN9 p (by repeat (first | exact hp | refine List.Mem.tail _ ?_))))
      | cons d a' =>
        have hd : pu.cps.toList.contains d = false := by
          have := hs2
          simp only [noz, Bool.not_eq_true'] at this
          exact this
        have he : (d :: a').isEmpty = false := rfl
        have hlen2 : (S (d :: a')).length = a'.length + 1 := by rw [s_len]; rfl
        k_steps
        all_goals ((rename News h₀ L _ _ => kN9); exact hQ _ _ (by assumption) (fun p hp => kN9 p (by repeat (first | exact hp | refine List.Mem.tail _ ?_))))
  | false =>
    have hu' : pu.cps.toList.contains c = false := hu
    cases hq : isQ c with
    | true =>
      have hq' : (Str.ofString "'\"").cps.toList.contains c = true := hq
      obtain ⟨body, rfl, hnb⟩ := stand_Q hs hu hq
      have hfz := find_z hnb
      (repeat' (first | (k_unfold; (try dsimp only)) | ((fail_if_success (with_reducible show wpAny _ _ (call (Value.builtin "str.find") _) _ _ _)); walk1)))
      rw [item0]
      refine SC.find3 ?_
      rw [hfz]
      (repeat' (first | (k_unfold; (try dsimp only)) | ((fail_if_success (with_reducible show wpAny _ _ (call (Value.builtin "len") _) _ _ _)); walk1)))
      refine len_S (Nat.le_trans hl (by decide)) fun t' k' => ?_
      have hb : (((body.length + 1 : Nat) : Int) == (((c :: (body ++ [c])).length : Nat) : Int) - 1) = true := by
        simp only [List.length_cons, List.length_append, List.length_nil, beq_iff_eq]; omega
      k_steps
      all_goals (try rw [hb])
      all_goals ((rename News h₀ L _ _ => kN9); exact hQ _ _ (by assumption) (fun p hp => kN9 p (by repeat (first | exact hp | refine List.Mem.tail _ ?_))))
    | false =>
      have hq' : (Str.ofString "'\"").cps.toList.contains c = false := hq
      cases hg : goz sp (Wz pu) (Uz pu) c with
      | true =>
        obtain ⟨hs1, hs2⟩ := stand_G hs hu hq hg
        (repeat' (first | (k_unfold; (try dsimp only)) | ((fail_if_success (with_reducible show wpAny _ _ (call (Value.ref 740) _) _ _ _)); walk1)))
        rw [item0]
        refine' goes1 ?k1 ?k2 ?k3 ?k4 ?k5 ?k6 ?k7 ?_
        case k7 => k_asm
        case k1 => k_asm
        case k2 => k_asm
        case k3 => k_asm
        case k4 => k_asm
        case k5 => k_room
        case k6 => k_units
        intro h2 k2 F2 N2
        rw [hg]
        (repeat' (first | (k_unfold; (try dsimp only)) | ((fail_if_success (with_reducible show wpAny _ _ (exec (Stmt.Assign [Expr.Name _ _] (Expr.ListComp _ _ _ _) _) _) _ _ _)); walk1)))
        k_dflt (refine Mine.lc_strA (by k_asm) (by rfl) (by with_unfolding_all rfl) (by with_unfolding_all rfl) (by decide) (by rfl) (by decide) (by rfl) (by rfl) (by rfl) ?_)
        (repeat' (first | (k_unfold; (try dsimp only)) | ((fail_if_success (with_reducible show Mine.SrcS _ _ _ _ _ _ _ _ _ _ _ _ _ _)); walk1)))
        k_dflt (refine Mine.srcS (by rfl) (by k_asm) (by k_asm) ?hz ?_)
        case hz => rw [s_size, sizeLine_eq]; omega
        intro g
        rw [size_one]
        refine flt_rest ((c :: r).map one) (oneG sp pu) sign_one1 ?_ ?_
        · intro y t I oI C oC D m₂ ys h tk E' hy hC hx F' N' off ne
          obtain ⟨x, hx1, rfl⟩ := List.mem_map.mp hy
          have hf : oneG sp pu (one x) = false := by show (!(goz sp (Wz pu) (Uz pu) x)) = false; rw [hs1 x hx1]; rfl
          unfold one at hx
          (repeat' (first | (k_unfold; (try dsimp only)) | ((fail_if_success (with_reducible show wpAny _ _ (call (Value.ref 740) _) _ _ _)); walk1)))
          refine' goes1 ?k1 ?k2 ?k3 ?k4 ?k5 ?k6 ?k7 ?_
          case k7 => k_asm
          case k1 => k_asm
          case k2 => k_asm
          case k3 => k_asm
          case k4 => k_asm
          case k5 => k_room
          case k6 => k_units
          intro h3 k3 F3 N3
          rw [hs1 x hx1]
          k_steps
          all_goals exact CompEnd.intro (by assumption) (by assumption) _ (fun p hp => hp) (by assumption) trivial ⟨rfl, hf⟩
        · intro ys hys
          have hfl : ((c :: r).map one).filter (oneG sp pu) = [] := by
            rw [List.filter_eq_nil_iff]
            intro y hy
            obtain ⟨x, hx1, rfl⟩ := List.mem_map.mp hy
            show ¬ (!(goz sp (Wz pu) (Uz pu) x)) = true
            rw [hs1 x hx1]; exact Bool.false_ne_true
          rw [hfl] at hys
          cases hys
          intro D h tk F' N' off
          cases a with
          | nil =>
            have he : ([] : List Nat).isEmpty = true := rfl
            k_steps
            all_goals ((rename News h₀ L _ _ => kN9); exact hQ _ _ (by assumption) (fun p hp => kN9 p (by repeat (first | exact hp | refine List.Mem.tail _ ?_))))
          | cons d a' =>
            have hd : goz sp (Wz pu) (Uz pu) d = false := by
              have := hs2
              simp only [noz, Bool.not_eq_true'] at this
              exact this
            have he : (d :: a').isEmpty = false := rfl
            have hlen2 : (S (d :: a')).length = a'.length + 1 := by rw [s_len]; rfl
            (repeat' (first | (k_unfold; (try dsimp only)) | ((fail_if_success (with_reducible show wpAny _ _ (call (Value.ref 740) _) _ _ _)); walk1)))
            rw [item0]
            refine' goes1 ?k1 ?k2 ?k3 ?k4 ?k5 ?k6 ?k7 ?_
            case k7 => k_asm
            case k1 => k_asm
            case k2 => k_asm
            case k3 => k_asm
            case k4 => k_asm
            case k5 => k_room
            case k6 => k_units
            intro h4 k4 F4 N4
            rw [hd]
            k_steps
            all_goals ((rename News h₀ L _ _ => kN9); exact hQ _ _ (by assumption) (fun p hp => kN9 p (by repeat (first | exact hp | refine List.Mem.tail _ ?_))))
      | false =>
        obtain rfl := stand_1 hs hu hq hg
        (repeat' (first | (k_unfold; (try dsimp only)) | ((fail_if_success (with_reducible show wpAny _ _ (call (Value.ref 740) _) _ _ _)); walk1)))
        rw [item0]
        refine' goes1 ?k1 ?k2 ?k3 ?k4 ?k5 ?k6 ?k7 ?_
        case k7 => k_asm
        case k1 => k_asm
        case k2 => k_asm
        case k3 => k_asm
        case k4 => k_asm
        case k5 => k_room
        case k6 => k_units
        intro h2 k2 F2 N2
        rw [hg]
        (repeat' (first | (k_unfold; (try dsimp only)) | ((fail_if_success (with_reducible show wpAny _ _ (call (Value.builtin "len") _) _ _ _)); walk1)))
        refine len_S (Nat.le_trans hl (by decide)) fun t' k' => ?_
        k_steps
        all_goals ((rename News h₀ L _ _ => kN9); exact hQ _ _ (by assumption) (fun p hp => kN9 p (by repeat (first | exact hp | refine List.Mem.tail _ ?_))))
end
end Mine

end
section
local macro_rules | `(tactic| ktr_unf) => `(tactic| (repeat' (first | (k_unfold; (try dsimp only)) | ((fail_if_success (with_reducible show wpAny _ _ (exec (Stmt.While _ _ _ _) _) _ _ _)); walk1))))
local macro_rules | `(tactic| walk_at "exec For Name Name cons nil") => `(tactic| (k_here; (rename Fr _ _ _ _ => lF'); (with_reducible refine For_invVF lF' ?k1 ?k2 ?_ ?k3 ?k4); (case k1 => exact rfl); (case k2 => exact rfl); (case k3 => exact fun _ => rfl); (case k4 => passes_own); k_whole))
namespace Mine
section
variable {w : World} {A₀ : Around} {base h₀ : Heap} {outer : List Env} {L : Addr} {m mg mb : Str → Option Value} {loose : List Str} {mean : ExcName → Option Value} {s : Shared} {Q E : Value → Shared → Prop} {p : Program}
  {hdl : Option Value} {d u : Nat} {gs : Option (List Code)} {rest : List (Addr × Obj)} {ns : List (Str × NameKind)} {ig ic : Bool} {mo : List (Str × Const)} {gl bi : Addr} {cs : List (Str × Addr)} {qn : Str} {fo : Option Addr} {cdv : Value}
/-! _law_text of law 1: a text of any signs -/
structure TX1 where
  n : Int
  tn : Tok
  tx : List Nat
  tt : Tok
abbrev sg1 : Str := Str.ofString "a|= '\"\nb&(-$;>#\\?9\t"
def px1 (t1 : Tok) (c : TX1) : List (Str × Value) := [(Str.ofString "text", .str (S c.tx) c.tt), (Str.ofString "signs", .str sg1 t1)]
def DX1 (c : TX1) (b : Nat) : Prop := (∀ a ∈ c.tx, a < 1114112) ∧ c.tx.length ≤ b
theorem x1_gen {g h : Heap} {L : Addr} {m : Str → Option Value} {t t1 : Tok} (F : Fr g L h (fun y => if y = Str.ofString "text" then some (.str (Str.ofString "") t) else if y = Str.ofString "signs" then some (.str sg1 t1) else m y)) :
  ∃ m' t t1, Fr g L h m' ∧ ∀ p ∈ px1 t1 ⟨0, 0, [], t⟩, m' p.1 = some p.2 := by
  refine ⟨_, t, t1, F, ?_⟩
  intro p hp
  simp only [px1, List.mem_cons, List.not_mem_nil, or_false] at hp
  rw [← S_nil] at hp
  rcases hp with rfl | rfl <;> exact rfl
theorem x1_gen2 {g h : Heap} {L : Addr} {m1 u : Str → Option Value} {n : Int} {c : TX1} {v : Value} {t t1 : Tok}
  (F : Fr g L h (fun y => if y = Str.ofString "n" then some (.int n t) else if y = Str.ofString "x" then some v else kstB (fun z => if [Str.ofString "n", Str.ofString "k", Str.ofString "code"].contains z then u z else m1 z) (px1 t1 c) y)) (hn : n < 20 ^ 9) :
  ∃ m' t n, n < 20 ^ 9 ∧ Fr g L h m' ∧ (∀ p ∈ (Str.ofString "n", Value.int n t) :: px1 t1 c, m' p.1 = some p.2) ∧
    ∀ z, z ≠ Str.ofString "x" → (z ≠ Str.ofString "text" ∧ z ≠ Str.ofString "signs") → [Str.ofString "n", Str.ofString "k", Str.ofString "code"].contains z = false → m' z = m1 z := by
  refine ⟨_, t, n, hn, F, ?_, ?_⟩
  · intro p hp
    simp only [px1, List.mem_cons, List.not_mem_nil, or_false] at hp
    rcases hp with rfl | rfl | rfl <;> exact rfl
  · intro z hx hp hs
    obtain ⟨b1, b2⟩ := hp
    have b3 : ¬ z = Str.ofString "n" := by intro e; subst e; simp at hs
    simp only [px1, kstB, hx, b1, b2, b3, hs, if_false, Bool.false_eq_true]
theorem x1_n (x : Int) : x.fmod (20 ^ Int.toNat 8) + 1 < 20 ^ 9 := by
  have h1 : x.fmod (20 ^ Int.toNat 8) < 20 ^ Int.toNat 8 := Int.fmod_lt_of_pos _ (by decide)
  have h2 : (20 : Int) ^ Int.toNat 8 = 25600000000 := by decide
  have h3 : (20 : Int) ^ 9 = 512000000000 := by decide
  omega
theorem x1_q {n : Int} (h : 0 < n) : 0 ≤ (n - 1).fdiv 20 ∧ 20 * (n - 1).fdiv 20 ≤ n - 1 := by
  rw [Int.fdiv_eq_ediv_of_nonneg _ (by decide)]; omega
theorem x1_q2 {n : Int} (h : 0 < n) : ((n - 1).fdiv 20).fdiv 1112064 ≤ (n - 1).fdiv 20 ∧ 0 ≤ ((n - 1).fdiv 20).fdiv 1112064 := by
  have := (x1_q h).1
  rw [Int.fdiv_eq_ediv_of_nonneg _ (show (0 : Int) ≤ 1112064 by decide)]; omega
theorem x1_p {n q : Int} {j a b : Nat} (h : 0 < n) (hq : q ≤ (n - 1).fdiv 20) (hn : n < 20 ^ j) (hl : a + j ≤ b) : ∃ j', q < 20 ^ j' ∧ a + 1 + j' ≤ b := by
  cases j with
  | zero => simp at hn; omega
  | succ j =>
    have := x1_q h
    rw [Int.pow_succ] at hn
    exact ⟨j, by omega, by omega⟩
theorem x1_m {n q : Int} (h : 0 < n) (hq : q ≤ (n - 1).fdiv 20) : q.toNat < n.toNat := by
  have := x1_q h; omega
theorem x1_P {n q : Int} {j a b : Nat} {tx : List Nat} {c : Nat} {tn tt : Tok} (p1 : ∀ c ∈ tx, c < 1114112) (p3 : tx.length ≤ a) (h : 0 < n) (hq : q ≤ (n - 1).fdiv 20) (hn : n < 20 ^ j) (hl : a + j ≤ b) (hc : c < 1114112) :
    ∃ a', DX1 ⟨q, tn, tx ++ [c], tt⟩ a' ∧ ∃ j', q < 20 ^ j' ∧ a' + j' ≤ b := by
  obtain ⟨j', h1, h2⟩ := x1_p h hq hn hl
  refine ⟨a + 1, ⟨fun x hx => ?_, by simp; omega⟩, j', h1, h2⟩
  rcases List.mem_append.mp hx with hx | hx
  · exact p1 x hx
  · rw [List.mem_singleton.mp hx]; exact hc
theorem x1_chb (y : Int) : ∃ c', (⟨#[(y.fmod 1112064 + 2048).toNat]⟩ : Str) = ⟨#[c']⟩ ∧ c' < 1114112 :=
  ⟨_, rfl, by have := Int.fmod_lt_of_pos y (show (0 : Int) < 1112064 by decide); omega⟩
theorem x1_chc {y : Int} (h : y < 55296) : ∃ c', (⟨#[y.toNat]⟩ : Str) = ⟨#[c']⟩ ∧ c' < 1114112 := ⟨_, rfl, by omega⟩
theorem x1_add {w : World} {A : Around} {E : Value → Shared → Prop} {s : Shared} {Q : Value → Shared → Prop} {l : List Nat} {y : Str} {t u : Tok} (hc : ∃ c, y = ⟨#[c]⟩ ∧ c < 1114112) (hl : l.length ≤ 100000)
    (h : ∀ c t' k, c < 1114112 → Q (.str (S (l ++ [c])) t') { s with toks := k }) : wpAny (model prog w) A (inplaceOp .Add (.str (S l) t) (.str y u)) Q E s := by
  obtain ⟨c, rfl, hc⟩ := hc
  exact add_S hl fun t' k => h c t' k hc
theorem item1_any {x : Str} {P : Nat → Prop} (h : ∀ j : Fin x.cps.toList.length, Txt.item x (j.val : Int) = ⟨#[x.cps.toList[j.val]'j.isLt]⟩) (hP : ∀ c ∈ x.cps.toList, P c) {k : Int} (h0 : 0 ≤ k) (hk : k < x.cps.toList.length) : ∃ c, Txt.item x k = ⟨#[c]⟩ ∧ P c := by
  obtain ⟨j, rfl⟩ := Int.eq_ofNat_of_zero_le h0
  have hj : j < x.cps.toList.length := by omega
  exact ⟨_, h ⟨j, hj⟩, hP _ (List.getElem_mem hj)⟩
theorem item1a {y : Int} (hk : y.fmod 20 < 19) : ∃ c, Txt.item sg1 (y.fmod 20) = ⟨#[c]⟩ ∧ c < 1114112 :=
  item1_any (by decide +kernel) (by decide +kernel) (Int.fmod_nonneg_of_pos _ (by decide)) (by (have : sg1.cps.toList.length = 19 := (by decide +kernel)); omega)
theorem nk1_2 {z a b : Str} (h : z ≠ a) (h2 : z ≠ b) : ¬ [a, b].contains z = true := by
  simp only [List.contains_cons, List.contains_nil, Bool.or_false, Bool.or_eq_true, beq_iff_eq]; exact fun e => e.elim h h2
theorem x1_l1 {a n j k : Nat} (h : a ≤ n) (h1 : n + j ≤ 9 * k + 9) (h2 : k ≤ 40) : a ≤ 9 * k + 9 ∧ a ≤ 400 := by omega
theorem x1_kend {g h2 : Heap} {L : Addr} {s : Shared} {tk2 : Nat} {m2 m' : Str → Option Value} {n' : Int} {tn' tt' t1 : Tok} {tx' : List Nat} {cc : TX1} {led : List (Addr × Obj)} {P : TX1 → Prop}
  (F : Fr g L h2 m') (N : News g L h2 led) (h0 : m' (Str.ofString "n") = some (.int n' tn')) (h1 : m' (Str.ofString "text") = some (.str (S tx') tt')) (h3 : m' (Str.ofString "signs") = some (.str sg1 t1))
  (hr : ∀ z, z ≠ Str.ofString "n" → z ≠ Str.ofString "text" → z ≠ Str.ofString "signs" → z ≠ Str.ofString "k" → z ≠ Str.ofString "code" → m' z = m2 z) (hm : n'.toNat < cc.n.toNat) (hP : P ⟨n', tn', tx', tt'⟩) :
  KswEnd g L s (fun _ : TX1 => led) (fun c => (Str.ofString "n", .int c.n c.tn) :: px1 t1 c) (fun _ => True) [Str.ofString "k", Str.ofString "code"] m2 P (fun c => c.n.toNat) cc { s with heap := h2, toks := tk2 } := by
  refine ksw_end (σ := TX1) ⟨n', tn', tx', tt'⟩ F N (fun p hp => hp) trivial ?_ ?_ hP hm
  · intro p hp
    simp only [px1, List.mem_cons, List.not_mem_nil, or_false] at hp
    rcases hp with rfl | rfl | rfl <;> assumption
  · intro z a1 a2
    refine hr z (a1 _ (.head _)) (a1 _ (.tail _ (.head _))) (a1 _ (.tail _ (.tail _ (.head _)))) ?_ ?_
    · intro e; subst e; simp at a2
    · intro e; subst e; simp at a2
theorem x1_end {g h h2 : Heap} {L l : Addr} {s : Shared} {tk tk2 nn : Nat} {m1 m2 u2 : Str → Option Value} {x : Int} {c : TX1} {own rest : List (Addr × Obj)} {vs : Array Value} {pre : List Int} {t1 : Tok}
  (F : Fr g L h2 (kstB (fun z => if [Str.ofString "k", Str.ofString "code"].contains z then u2 z else m2 z) ((Str.ofString "n", .int c.n c.tn) :: px1 t1 c)))
  (N : News g L h2 ((l, listOf vs nn) :: rest ++ own))
  (e5 : ∀ z, z ≠ Str.ofString "x" → (z ≠ Str.ofString "text" ∧ z ≠ Str.ofString "signs") → [Str.ofString "n", Str.ofString "k", Str.ofString "code"].contains z = false → m2 z = m1 z)
  (hpl : DX1 c (9 * pre.length + 9)) :
  InvEndN g L (KstS (σ := TX1) (fun c => (l, listOf vs nn) :: rest) (px1 t1) (fun _ => True) (Str.ofString "x") [Str.ofString "n", Str.ofString "k", Str.ofString "code"] m1 (fun pre c => DX1 c (9 * pre.length)) (pre ++ [x]))
    own (((l, listOf vs nn) :: rest).map (·.1)) { s with heap := h, toks := tk } { s with heap := h2, toks := tk2 } := by
  refine ⟨_, _, _, _, (l, listOf vs nn) :: rest, rfl, F, N, fun p hp => List.mem_append_left _ hp, fun p hp => List.mem_append_right _ hp, rfl, c, rfl, trivial, ?_, ?_, ?_⟩
  · intro p hp
    simp only [px1, List.mem_cons, List.not_mem_nil, or_false] at hp
    rcases hp with rfl | rfl <;> exact rfl
  · intro z hx hp hs
    have b1 := hp _ (.head _)
    have b2 := hp _ (.tail _ (.head _))
    dsimp only at b1 b2
    have b3 : ¬ z = Str.ofString "n" := by intro e; subst e; simp at hs
    have b5 : [Str.ofString "k", Str.ofString "code"].contains z = false := by
      simp only [List.contains_cons, Bool.or_eq_false_iff] at hs ⊢
      exact hs.2
    simp only [px1, kstB, b1, b2, b3, b5, if_false, Bool.false_eq_true]
    exact e5 z hx ⟨b1, b2⟩ hs
  · simp only [List.length_append, List.length_singleton]
    exact hpl
end
end Mine
local macro_rules | `(tactic| walk_at "inplaceOp Add str str") => `(tactic| (k_here; (try dsimp only); with_reducible refine' Mine.x1_add ?c ?l ?_; (case c => first | exact Mine.item1a ‹_› | exact Mine.x1_chb _ | exact Mine.x1_chc ‹_›); (case l => exact Mine.lz ‹_› rfl); intro c' t' k' hc'; (try dsimp only)))
namespace Mine
section
variable {w : World} {A₀ : Around} {base h₀ : Heap} {outer : List Env} {L : Addr} {m mg mb : Str → Option Value} {loose : List Str} {mean : ExcName → Option Value} {s : Shared} {Q E : Value → Shared → Prop} {p : Program}
  {hdl : Option Value} {d u : Nat} {gs : Option (List Code)} {rest : List (Addr × Obj)} {ns : List (Str × NameKind)} {ig ic : Bool} {mo : List (Str × Const)} {gl bi : Addr} {cs : List (Str × Addr)} {qn : Str} {fo : Option Addr} {cdv : Value}
theorem text1 {l : Addr} {vs : List Value} {nums : List Int} {nn : Nat}
  (B : Below A₀ base outer h₀) (F : Fr h₀ L s.heap m) (X : (hd.heap_1 w.params).In h₀) (T : Top p loose mean mg mb h₀) (hdp : d < 900) (hun : u < 9000)
  (hi : IntsAre vs nums) (hlen : nums.length ≤ 40)
  (N : News h₀ L s.heap ((l, listOf vs.toArray nn) :: rest))
  (hQ : ∀ h' tx t k, Fr h₀ L h' m → News h₀ L h' ((l, listOf vs.toArray nn) :: rest) → (∀ c ∈ tx, c < 1114112) → tx.length ≤ 9 * nums.length → Q (.str (S tx) t) { s with heap := h', toks := k })
  : wpAny (model prog w) (ar none d (fenv ns ig ic mo gl cs qn fo cdv bi L :: outer) gs u) (call (.ref 733) [.ref l]) Q E s := by
  refine wpAny_call ?_
  k_enter
  (repeat' (first | (k_unfold; (try dsimp only)) | ((fail_if_success (with_reducible show wpAny _ _ (pyIter _) _ _ _)); walk1)))
  rename Fr _ _ _ _ => F1
  rename News _ _ _ _ => N1
  obtain ⟨m1, t, t1, F1, e0⟩ := x1_gen F1
  refine kst_listL (σ := TX1) (fun c => (l, listOf vs.toArray nn) :: rest) (px1 t1) (fun _ => True) ([Str.ofString "n", Str.ofString "k", Str.ofString "code"]) (fun pre c => DX1 c (9 * pre.length)) ⟨0, 0, [], t⟩ rfl (fun _ => .head _) hi F1 N1 trivial e0 ?_ ?_ ?_
  · exact ⟨by simp, by simp⟩
  · rintro ⟨n0, tn0, tx, tt⟩ pre post x tx0 u h tk own hns hxm hoff _ hpl F2 N2
    clear F1 N1
    (try dsimp only at F2)
    (try dsimp only at N2)
    ktr_unf
    rename Fr _ _ _ _ => F1
    rename News _ _ _ _ => N1
    obtain ⟨m2, tn2, n2, hn2, F1, e2, e5⟩ := x1_gen2 (c := ⟨n0, tn0, tx, tt⟩) F1 (x1_n x)
    refine ksw_while (σ := TX1) (fun c => (l, listOf vs.toArray nn) :: rest ++ own) (fun c => (Str.ofString "n", .int c.n c.tn) :: px1 t1 c) (fun _ => True) ([Str.ofString "k", Str.ofString "code"])
      (fun c => ∃ a : Nat, DX1 c a ∧ ∃ j : Nat, c.n < 20 ^ j ∧ a + j ≤ 9 * pre.length + 9) (fun c => c.n.toNat) ⟨n2, tn2, tx, tt⟩ F1 N1 trivial e2 ?_ ?_ ?_
    · exact ⟨9 * pre.length, hpl, 9, hn2, Nat.le_refl _⟩
    · clear F1 N1 F2 N2 hQ e2 e0 hpl N F hxm
      rintro ⟨n1, tn1, tx1, tt1⟩ u2 h2 tk2 _ ⟨a, hpl, j, hnj, hl9⟩ F2 N2
      dsimp only [px1] at F2 N2 hpl hl9 hnj
      have hpre : pre.length ≤ 40 := by rw [hns] at hlen; simp at hlen; omega
      obtain ⟨p1, p3⟩ := hpl
      dsimp only at p1 p3
      obtain ⟨q4, q1⟩ := x1_l1 p3 hl9 hpre
      (repeat' (first | (k_unfold; (try dsimp only)) | ((fail_if_success (with_reducible show wpAny _ _ (execs (Stmt.Assign [Expr.Tuple _ _ _] _ _ :: _) _) _ _ _)); walk1)))
      rotate_left
      · (exact x1_end (c := ⟨n1, tn1, tx1, tt1⟩) (by assumption) (by assumption) e5 ⟨p1, q4⟩)
      · refine post_genF ?_
        intro Qv hQv
        k_steps
        all_goals (refine hQv _ _ ?_; (refine' x1_kend ?F ?N ?h0 ?h1 ?h3 ?hr ?hm ?hP; (case F => assumption); (case N => first | assumption | exact news_tl (by assumption) | exact news_tl (news_tl (by assumption))); (case h0 => exact rfl); (case h1 => exact rfl); (case h3 => exact rfl); (case hr => (intro z b1 b2 b3 b5 b6; (have b7 := nk1_2 b5 b6); repeat (first | exact rfl | refine Eq.trans (if_neg (by with_reducible assumption)) ?_))); (case hm => exact x1_m (by assumption) (by first | exact Int.le_refl _ | exact (x1_q2 (by assumption)).1)); (case hP => exact x1_P p1 p3 (by assumption) (by first | exact Int.le_refl _ | exact (x1_q2 (by assumption)).1) hnj hl9 (by assumption))))
    · passes_own
  · rintro ⟨n0, tn0, tx, tt⟩ u h tk _ ⟨p1, p3⟩ F2 N2
    clear F1 N1
    dsimp only [px1] at F2
    (try dsimp only at p1)
    (try dsimp only at p3)
    k_steps
    exact hQ _ tx _ _ (by assumption) (by assumption) p1 p3
end
end Mine

end
section
local macro_rules | `(tactic| k_handed) => `(tactic| with_reducible assumption)
local macro_rules | `(tactic| walk_at "getAttr ref") => `(tactic| (k_here; k_dflt (refine' get_own (by k_asm) (by k_asm) (by k_inst) (by k_is) (by k_is) (by k_is) (by k_is) (by k_get) (by k_handed) ?_; k_whole)))
local macro_rules | `(tactic| walk_at "callWith ref") => `(tactic| (k_here; first
  | ((with_reducible show wpAny _ _ (callWith _ _ _ (backTo _ (starEach [] _)) []) _ _ _); (refine' callWith_K0 (Frag.In.keeps (by with_reducible assumption) (Fr.keep (by assumption))) (by k_is) ?_); k_whole; (try dsimp only [List.nil_append, List.cons_append, List.append_nil]))
  | ((refine' callWith_K (by k_asm) (by k_is) ?_); k_whole)))
local macro_rules | `(tactic| walk_at "truthy ref") => `(tactic| (k_here; k_dflt (refine' Mine.dq_truthy ?N ?m ?sz ?_; (case N => k_asm); (case m => k_mem); (case sz => first | assumption | exact Nat.le_of_ble_eq_true rfl); k_whole); (try dsimp only [List.isEmpty_cons, List.isEmpty_nil, Bool.not_true, Bool.not_false])))
namespace Mine
def ApZ (lg rest : List (Addr × Obj)) : Prop := ∀ q ∈ lg, ∀ p ∈ rest, p.1 ≠ q.1
def SameZ (lg lg' : List (Addr × Obj)) : Prop := lg'.map (·.1) = lg.map (·.1)
theorem ApZ.same {lg lg' rest : List (Addr × Obj)} (h : ApZ lg rest) (e : SameZ lg lg') : ApZ lg' rest := by
  intro q hq p hp
  have : q.1 ∈ lg'.map (·.1) := List.mem_map.mpr ⟨q, hq, rfl⟩
  rw [e] at this
  obtain ⟨q', hq', e'⟩ := List.mem_map.mp this
  rw [← e']
  exact h q' hq' p hp
/-- the lexer between two calls: inp is what it has still to read -/
inductive LZ (P : Params) (x : List Nat) (pu : Str) (sp : Bool) (lx : Addr) (st : S5) (inp : List Nat) (lg : List (Addr × Obj)) : Prop
  | mk (K : GK) (pb pc : Addr) (k19 : Tok) (sv : Value) (ln : Int) (tl tt : Tok) (pos : Nat) (tp : Tok) (pcv : List Value) (pcn : Int) (pq : List Nat) (n1 n2 : Int) (_ : K.lx = lx) (_ : EV false K.ev)
    (_ : @LT.lt Nat _ K.dx K.lx) (_ : @LT.lt Nat _ K.lx K.iod) (_ : @LT.lt Nat _ K.iod K.io) (_ : @LT.lt Nat _ K.io pb) (_ : @LT.lt Nat _ pb K.fs) (_ : @LT.lt Nat _ K.fs pc) (_ : SV5 st sv) (_ : PC pcv pq) (_ : inp = pq ++ x.drop pos)
    (_ : lg = lgG P K pb pc (S x) (WPU pu) (Str.ofString "") pu [ent P "_pushback_chars" k19 (.ref pc)] false sp sv ln tl (S []) tt pos tp pcv pcn [(pb, dqO [] n1), (K.fs, dqO [] n2)])
theorem cm_nil : (fun c => (Str.ofString "").cps.toList.contains c) = fun _ => false := rfl
theorem sameG {P : Params} {K : GK} {pb pc : Addr} {x wc cm pu : Str} {ex : List DictEntry} {b sp : Bool} {sv sv' : Value} {ln ln' : Int} {tl tl' : Tok} {tok tok' : Str} {tt tt' : Tok} {pos pos' : Nat} {tp tp' : Tok} {pcv pcv' : List Value} {pcn pcn' : Int} {r : List (Addr × Obj)} :
  SameZ (lgG P K pb pc x wc cm pu ex b sp sv ln tl tok tt pos tp pcv pcn r) (lgG P K pb pc x wc cm pu ex b sp sv' ln' tl' tok' tt' pos' tp' pcv' pcn' r) := rfl
section
variable {w : World} {A₀ : Around} {base h₀ : Heap} {outer : List Env} {L : Addr} {m mg mb : Str → Option Value} {loose : List Str} {mean : ExcName → Option Value} {s : Shared} {Q E : Value → Shared → Prop} {p : Program}
  {hdl : Option Value} {d u : Nat} {gs : Option (List Code)} {rest : List (Addr × Obj)} {ns : List (Str × NameKind)} {ig ic : Bool} {mo : List (Str × Const)} {gl bi : Addr} {cs : List (Str × Addr)} {qn : Str} {fo : Option Addr} {cdv : Value}
theorem rz {x : List Nat} {pu : Str} {sp : Bool} {lx : Addr} {st : S5} {inp : List Nat} {lg : List (Addr × Obj)}
  (B : Below A₀ base outer h₀) (F : Fr h₀ L s.heap m) (X : (hd.heap_1 w.params).In h₀) (T : Top p loose mean mg mb h₀) (hdp : d < 900) (hun : u < 9000)
  (H : ZF (Wz pu) (Uz pu)) (hx : x.length ≤ 1000) (hi : inp.length ≤ 1000) (hpu : pu.cps.toList.isEmpty = false) (hpl : pu.length ≤ 1000) (hst : st = .white ∨ st = .fin ∧ inp = [])
  (hL : LZ w.params x pu sp lx st inp lg) (hap : ApZ lg rest) (N : News h₀ L s.heap (lg ++ rest))
  (hQ : ∀ h' lg' tok st' rem ln ln' push t k, Fr h₀ L h' m → News h₀ L h' (lg' ++ rest) → rtz sp (Wz pu) (Uz pu) inp st [] ln = some (.ok tok st' rem ln' push) → LZ w.params x pu sp lx st' (push.toList ++ rem) lg' → SameZ lg lg' → Q (.str (S tok) t) { s with heap := h', toks := k })
  (hE : ∀ h' e t g' lg' tok st' ln ln' k tv, RaisedS base g' (fenv ns ig ic mo gl cs qn fo cdv bi L :: outer) e (.type "ValueError") t [.str (msgZ st') tv] (lg' ++ rest) h' → Fr h₀ L g' m → g'.UpToSlots h' → rtz sp (Wz pu) (Uz pu) inp st [] ln = some (.fault tok st' ln') → E (.ref e) { s with heap := h', toks := k })
  : wpAny (model prog w) (ar none d (fenv ns ig ic mo gl cs qn fo cdv bi L :: outer) gs u) (call (.ref 690) [.ref lx]) Q E s := by
  obtain ⟨K, pb, pc, k19, sv, ln, tl, tt, pos, tp, pcv, pcn, pq, n1, n2, rfl, hev, o1, o2, o3, o4, o5, o6, hsv, hpc, rfl, rfl⟩ := hL
  have hr : ∀ {q : Addr × Obj}, q ∈ lgG w.params K pb pc (S x) (WPU pu) (Str.ofString "") pu [ent w.params "_pushback_chars" k19 (.ref pc)] false sp sv ln tl (S []) tt pos tp pcv pcn [(pb, dqO [] n1), (K.fs, dqO [] n2)] → @Ne Nat pb q.1 → @Ne Nat K.fs q.1 → ∀ p ∈ [(pb, dqO [] n1), (K.fs, dqO [] n2)] ++ rest, p.1 ≠ q.1 := by
    intro q hq a1 a2 p hp
    rcases List.mem_append.mp hp with hp | hp
    · rcases List.mem_cons.mp hp with rfl | hp
      · exact a1
      · rw [List.mem_singleton.mp hp]; exact a2
    · exact hap q hq p hp
  have q1 := Nat.lt_trans o3 o4
  have q2 := Nat.lt_trans (Nat.lt_trans o1 o2) q1
  have hA : ApG K pc ([(pb, dqO [] n1), (K.fs, dqO [] n2)] ++ rest) := apG o1 o2 o3 (Nat.lt_trans o4 (Nat.lt_trans o5 o6))
    (hr (q := (K.iod, _)) (.tail _ (.head _)) (Nat.ne_of_gt q1) (Nat.ne_of_gt (Nat.lt_trans q1 o5)))
    (hr (q := (K.dx, _)) (.tail _ (.tail _ (.tail _ (.tail _ (.head _))))) (Nat.ne_of_gt q2) (Nat.ne_of_gt (Nat.lt_trans q2 o5)))
    (hr (q := (pc, _)) (.tail _ (.tail _ (.head _))) (Nat.ne_of_lt (Nat.lt_trans o5 o6)) (Nat.ne_of_lt o6))
  have hxs : (S x).cps.toList = x := s_cps x
  obtain ⟨R, hR⟩ := z_some (sp := sp) H (pq ++ x.drop pos) st [] ln (fun e => by
    rcases hst with rfl | ⟨_, h⟩
    · cases e
    · exact h) (by rcases hst with rfl | ⟨rfl, _⟩ <;> exact fun e => nomatch e) (by rcases hst with rfl | ⟨rfl, _⟩ <;> exact fun e => nomatch e)
  refine rtokZ (K := K) (pq := pq) (st := st) (l0 := []) (R := R) B F X T hdp hun ?_ hA hsv hpc rfl ?_ ?_ (.inr ⟨hpu, Nat.le_trans hpl (by decide), k19, rfl⟩) ?_ ?_ N ?_ ?_
  · rw [s_len]; exact Nat.le_trans hx (by decide)
  · rcases hst with rfl | ⟨rfl, _⟩
    · exact ⟨rfl, fun e => nomatch e⟩
    · exact True.intro
  · rw [hxs]; simpa using Nat.le_trans hi (by decide)
  · intro h; rw [hpu] at h; cases h
  · rw [hxs]; exact hR
  · intro h' v sv' ln' tl' tt' pos' t2' pcv' pcn' k tok st' push t F' N' e1 e2 e3 e4
    subst e4
    rw [hxs] at e1
    subst e1
    exact hQ h' _ tok st' (x.drop pos') ln ln' push t k F' N' hR ⟨K, pb, pc, k19, sv', ln', tl', tt', pos', t2', pcv', pcn', push.toList, n1, n2, rfl, hev, o1, o2, o3, o4, o5, o6, e2, e3, rfl, rfl⟩ sameG
  · intro h' e t g' sv' ln' tl' tt' pos' t2' pcn' k tok st' tv S' FG' U' e1 e2 e3
    subst e1
    exact hE h' e t g' (lgG w.params K pb pc (S x) (WPU pu) (Str.ofString "") pu [ent w.params "_pushback_chars" k19 (.ref pc)] false sp sv' ln' tl' (S tok) tt' pos' t2' [] pcn' [(pb, dqO [] n1), (K.fs, dqO [] n2)]) tok st' ln ln' k tv S' FG' U' hR
theorem while_onceZ {w : World} {A : Around} {E : Value → Shared → Prop} {Q : Flow → Shared → Prop} {s : Shared} {env : Env} {h₀ : Heap} {L : Addr} {test : Expr} {body : List Stmt} {pos : Pos} {m : Str → Option Value} {news : List (Addr × Obj)}
    (F : Fr h₀ L s.heap m) (N : News h₀ L s.heap news)
    (turn : ∀ h₁ tk₁, Fr h₀ L h₁ m → News h₀ L h₁ news →
      wpAny (model prog w) A (isTrue test env (eval test env)) (fun b s₂ =>
        if b = true then wpAny (model prog w) A (execs body env) (WhileStep2 h₀ L s (fun n m₁ nx => n = 0 ∧ m₁ = m ∧ nx = news) Q 0) E s₂ else Q .next s₂) E { s with heap := h₁, toks := tk₁ })
    (hE : PassesOwn (model prog w) A env E := by passes_own) :
    wpAny (model prog w) A (exec (.While test body [] pos) env) Q E s :=
  While_inv2 (n₀ := 0) (fun n m₁ nx => n = 0 ∧ m₁ = m ∧ nx = news) F N ⟨rfl, rfl, rfl⟩ (fun n m₁ nx h tk F₁ N₁ e => by
    obtain ⟨rfl, rfl, rfl⟩ := e
    exact turn h tk F₁ N₁) hE
theorem lz_at {P : Params} {x : List Nat} {pu : Str} {sp : Bool} {lx : Addr} {st : S5} {inp : List Nat} {lg : List (Addr × Obj)} (hL : LZ P x pu sp lx st inp lg) :
    ∃ dx pb fs io pc T k19 ev f sv ln tl tt n1 n2, (lx, instObj 722 dx) ∈ lg ∧ (dx, lexP P T k19 false sp (.str (Str.ofString "") ev) (Str.ofString "") (WPU pu) pu pb fs io pc f sv ln tl (S []) tt) ∈ lg ∧ (pb, dqO [] n1) ∈ lg ∧ (fs, dqO [] n2) ∈ lg := by
  obtain ⟨⟨kt, T, ev, f, io, iod, lx, dx, fs⟩, pb, pc, k19, sv, ln, tl, tt, pos, tp, pcv, pcn, pq, n1, n2, rfl, ⟨t, rfl⟩, o1, o2, o3, o4, o5, o6, hsv, hpc, rfl, rfl⟩ := hL
  exact ⟨dx, pb, fs, io, pc, T, k19, t, f, sv, ln, tl, tt, n1, n2, .tail _ (.tail _ (.tail _ (.head _))), .tail _ (.tail _ (.tail _ (.tail _ (.head _)))), .tail _ (.tail _ (.tail _ (.tail _ (.tail _ (.head _))))), .tail _ (.tail _ (.tail _ (.tail _ (.tail _ (.tail _ (.head _))))))⟩
theorem more4 {a b c e : Addr × Obj} {l : List (Addr × Obj)} {h : Heap} {g : Heap} {L : Addr} (N : News g L h l) (ha : a ∈ l) (hb : b ∈ l) (hc : c ∈ l) (he : e ∈ l) : News g L h (a :: b :: c :: e :: l) := by
  intro p hp
  rcases List.mem_cons.mp hp with rfl | hp
  · exact N _ ha
  rcases List.mem_cons.mp hp with rfl | hp
  · exact N _ hb
  rcases List.mem_cons.mp hp with rfl | hp
  · exact N _ hc
  rcases List.mem_cons.mp hp with rfl | hp
  · exact N _ he
  · exact N _ hp
/-- get_token at the end -/
theorem gz {x : List Nat} {pu : Str} {sp : Bool} {lx : Addr} {lg : List (Addr × Obj)}
  (B : Below A₀ base outer h₀) (F : Fr h₀ L s.heap m) (X : (hd.heap_1 w.params).In h₀) (T : Top p loose mean mg mb h₀) (hdp : d < 800) (hun : u < 8000)
  (H : ZF (Wz pu) (Uz pu)) (hx : x.length ≤ 1000) (hpu : pu.cps.toList.isEmpty = false) (hpl : pu.length ≤ 1000)
  (hL : LZ w.params x pu sp lx .fin [] lg) (hap : ApZ lg rest) (N : News h₀ L s.heap (lg ++ rest))
  (hQ : ∀ h' t k, Fr h₀ L h' m → News h₀ L h' rest → Q (.str (Str.ofString "") t) { s with heap := h', toks := k })
  : wpAny (model prog w) (ar none d (fenv ns ig ic mo gl cs qn fo cdv bi L :: outer) gs u) (call (.ref 683) [.ref lx]) Q E s := by
  obtain ⟨dx, pb, fs, io, pc, T1, k19, ev, f, sv, ln, tl, tt, n1, n2, m1, m2, m3, m4⟩ := lz_at hL
  refine wpAny_call ?_
  k_enter
  (with_reducible rename News _ _ _ _ => kN)
  have kN2 := more4 kN (List.mem_append_left _ m1) (List.mem_append_left _ m2) (List.mem_append_left _ m3) (List.mem_append_left _ m4)
  (repeat' (first | (k_unfold; (try dsimp only)) | ((fail_if_success (with_reducible show wpAny _ _ (call (Value.ref 690) [Value.ref _]) _ _ _)); walk1)))
  clear kN
  (with_reducible rename News _ _ _ _ => kN)
  refine' rz (rest := rest) ?k1 ?k2 ?k3 ?k4 ?k5 ?k6 H hx (Nat.zero_le _) hpu hpl (.inr ⟨rfl, rfl⟩) hL hap ?k22 ?_ ?_
  case k22 => exact news_tl (news_tl (news_tl (news_tl kN)))
  case k1 => with_reducible assumption
  case k2 => with_reducible assumption
  case k3 => with_reducible assumption
  case k4 => with_reducible assumption
  case k5 => k_room
  case k6 => k_units
  · intro h' lg' tok st' rem ln ln' push t k F' N' hR hL' hS
    unfold rtz at hR
    rw [re_nf] at hR
    cases Option.some.inj hR
    obtain ⟨dx', pb', fs', io', pc', T1', k19', ev', f', sv', ln', tl', tt', n1', n2', m1', m2', m3', m4'⟩ := lz_at hL'
    have kN3 := more4 N' (List.mem_append_left _ m1') (List.mem_append_left _ m2') (List.mem_append_left _ m3') (List.mem_append_left _ m4')
    clear N' kN N
    (try dsimp only)
    (repeat' (first | (k_unfold; (try dsimp only)) | ((fail_if_success (with_reducible show wpAny _ _ (exec (Stmt.While _ _ _ _) _) _ _ _)); walk1)))
    rename Fr _ _ _ _ => F1
    rename News _ _ _ _ => N1
    refine while_onceZ F1 N1 ?_ (by passes_own)
    intro h tk F2 N2
    clear F1 N1
    (repeat' (first | (k_unfold; (try dsimp only)) | ((fail_if_success (with_reducible show wpAny _ _ (compareOp CmpOp.Eq _ _) _ _ _)); walk1)))
    refine eq_S (b := true) rfl ?_
    k_steps
    dsimp only
    k_steps
    dsimp only [WhileStep2]
    k_steps
    rename Fr h₀ L _ _ => F9
    rename News h₀ L _ _ => N9
    exact hQ _ _ _ F9 (fun p hp => N9 p (.tail _ (.tail _ (.tail _ (.tail _ (List.mem_append_right _ hp))))))
  · intro h' e t g' lg' tok st' ln ln' k tv S' FG' U' hR
    unfold rtz at hR
    rw [re_nf] at hR
    cases Option.some.inj hR
end
end Mine

end
section
namespace Mine
/-- the lexer just made -/
inductive CtP (P : Params) (x pu : Str) (lx : Addr) (l : List (Addr × Obj)) : Prop
  | mk (dx io iod pb fs pc : Addr) (kt : IoT) (T : LxT) (k19 : Tok) (ev : Value) (t1 ts tl tt : Tok) (_ : EV false ev) (_ : @LT.lt Nat _ dx lx) (_ : @LT.lt Nat _ lx iod) (_ : @LT.lt Nat _ iod io) (_ : @LT.lt Nat _ io pb) (_ : @LT.lt Nat _ pb fs) (_ : @LT.lt Nat _ fs pc)
    (_ : l = [(io, instObj 587 iod), (iod, ioD P kt x 0 t1), (pc, dqO [] 0), (lx, instObj 722 dx), (dx, lexP P T k19 false false ev (Str.ofString "#") (WPU pu) pu pb fs io pc .none (.str (Str.ofString " ") ts) 1 tl (Str.ofString "") tt), (pb, dqO [] 0), (fs, dqO [] 0)])
theorem lz_0 {P : Params} {x : List Nat} {pu : Str} {sp : Bool} {lx dx io iod pb fs pc : Addr} {kt : IoT} {T : LxT} {k19 : Tok} {ev : Value} {t1 ts tl tt : Tok} (h : EV false ev) (o1 : @LT.lt Nat _ dx lx) (o2 : @LT.lt Nat _ lx iod) (o3 : @LT.lt Nat _ iod io) (o4 : @LT.lt Nat _ io pb) (o5 : @LT.lt Nat _ pb fs) (o6 : @LT.lt Nat _ fs pc) :
    LZ P x pu sp lx .white x [(io, instObj 587 iod), (iod, ioD P kt (S x) 0 t1), (pc, dqO [] 0), (lx, instObj 722 dx), (dx, lexP P T k19 false sp ev (Str.ofString "") (WPU pu) pu pb fs io pc .none (.str (Str.ofString " ") ts) 1 tl (Str.ofString "") tt), (pb, dqO [] 0), (fs, dqO [] 0)] :=
  ⟨⟨kt, T, ev, .none, io, iod, lx, dx, fs⟩, pb, pc, k19, _, 1, tl, tt, 0, t1, [], 0, [], 0, 0, rfl, h, o1, o2, o3, o4, o5, o6, ⟨_, rfl⟩, .inl ⟨rfl, rfl⟩, rfl, by rw [← S_nil]; rfl⟩
theorem lz_0N {P : Params} {x : List Nat} {pu : Str} {sp : Bool} {lx dx io iod pb fs pc : Addr} {kt : IoT} {T : LxT} {k19 : Tok} {ev : Value} {t1 ts tl tt : Tok} {g h' : Heap} {L : Addr} (N : News g L h' [(io, instObj 587 iod), (iod, ioD P kt (S x) 0 t1), (pc, dqO [] 0), (lx, instObj 722 dx), (dx, lexP P T k19 false sp ev (Str.ofString "") (WPU pu) pu pb fs io pc .none (.str (Str.ofString " ") ts) 1 tl (Str.ofString "") tt), (pb, dqO [] 0), (fs, dqO [] 0)])
    (h : EV false ev) (o1 : @LT.lt Nat _ dx lx) (o2 : @LT.lt Nat _ lx iod) (o3 : @LT.lt Nat _ iod io) (o4 : @LT.lt Nat _ io pb) (o5 : @LT.lt Nat _ pb fs) (o6 : @LT.lt Nat _ fs pc) : ∃ lg, LZ P x pu sp lx .white x lg ∧ News g L h' lg :=
  ⟨_, lz_0 h o1 o2 o3 o4 o5 o6, N⟩
theorem has4 {m : Str → Option Value} {a1 a2 a3 a4 : Str × Value} (h1 : m a1.1 = some a1.2) (h2 : m a2.1 = some a2.2) (h3 : m a3.1 = some a3.2) (h4 : m a4.1 = some a4.2) : Has m [a1, a2, a3, a4] := by
  intro p hp
  (repeat' (rcases List.mem_cons.mp hp with rfl | hp))
  all_goals first | assumption | exact nomatch hp
end Mine

end
section
namespace Mine
/-! law 1, plainly: what the law does with the words -/
section
variable {sp : Bool} {W U : Nat → Bool}
theorem Chkz.len {x r : List Nat} {ws : List (List Nat)} (h : Chkz sp W U x ws r) : ws.length + r.length ≤ x.length := by
  induction h with
  | nil => simp
  | snoc h e hg ht hs ih =>
    have h1 := List.length_pos_iff.mpr (stand_ne hs)
    rw [e] at ih
    simp only [List.length_append, List.length_cons, List.length_nil] at ih ⊢
    omega
theorem Chkz.mem {x r : List Nat} {ws : List (List Nat)} (h : Chkz sp W U x ws r) : (∀ t ∈ ws, ∀ c ∈ t, c ∈ x) ∧ ∀ c ∈ r, c ∈ x := by
  induction h with
  | nil => exact ⟨fun _ h => (nomatch h), fun _ h => h⟩
  | snoc h e hg ht hs ih =>
    obtain ⟨h1, h2⟩ := ih
    subst e
    refine ⟨fun t hm c hc => ?_, fun c hc => h2 c (List.mem_append_right _ hc)⟩
    rcases List.mem_append.mp hm with hm | hm
    · exact h1 t hm c hc
    · rw [List.mem_singleton.mp hm] at hc
      exact h2 c (List.mem_append_left _ (List.mem_append_right _ hc))
/-- the same, from the front -/
inductive Fwz (sp : Bool) (W U : Nat → Bool) (r : List Nat) : List Nat → List (List Nat) → Prop
  | nil : Fwz sp W U r r []
  | cons {x g t y : List Nat} {ws : List (List Nat)} (e : x = g ++ (t ++ y)) (hg : ∀ c ∈ g, isWs c = true) (ht : noz isWs t = true) (hs : standz sp W U t y) (h : Fwz sp W U r y ws) : Fwz sp W U r x (t :: ws)
theorem Fwz.snoc {x r0 g t r : List Nat} {ws : List (List Nat)} (h : Fwz sp W U r0 x ws) (e : r0 = g ++ (t ++ r)) (hg : ∀ c ∈ g, isWs c = true) (ht : noz isWs t = true) (hs : standz sp W U t r) : Fwz sp W U r x (ws ++ [t]) := by
  induction h with
  | nil => exact .cons e hg ht hs .nil
  | cons e1 g1 t1 s1 _ ih => exact .cons e1 g1 t1 s1 ih
theorem Chkz.fwd {x r : List Nat} {ws : List (List Nat)} (h : Chkz sp W U x ws r) : Fwz sp W U r x ws := by
  induction h with
  | nil => exact .nil
  | snoc h e hg ht hs ih => exact ih.snoc (e.trans (List.append_assoc _ _ _)) hg ht hs
/-- the state of the loop over the words: y is the rest -/
def PZ (sp : Bool) (W U : Nat → Bool) (n : Nat) (ws : List (List Nat)) (r : List Nat) (pre : List Str) (c : List Nat × Tok) : Prop :=
  ∃ dn rm, ws = dn ++ rm ∧ pre = dn.map S ∧ Fwz sp W U r c.1 rm ∧ c.1.length ≤ n
theorem pz_0 {x r : List Nat} {ws : List (List Nat)} {t : Tok} (h : Chkz sp W U x ws r) : PZ sp W U x.length ws r [] (x, t) := ⟨[], ws, rfl, rfl, h.fwd, Nat.le_refl _⟩
theorem pz_next {n : Nat} {ws : List (List Nat)} {r : List Nat} {c : List Nat × Tok} {pre post : List Str} {k : Str} (h : PZ sp W U n ws r pre c) (e : ws.map S = pre ++ k :: post) :
    ∃ g a t y, k = S (a :: t) ∧ c.1 = g ++ ((a :: t) ++ y) ∧ (∀ c ∈ g, isWs c = true) ∧ noz isWs ((a :: t) ++ y) = true ∧ standz sp W U (a :: t) y ∧ (a :: t) ∈ ws ∧ (g ++ ((a :: t) ++ y)).length ≤ n ∧ ∀ v, PZ sp W U n ws r (pre ++ [k]) (y, v) := by
  obtain ⟨dn, rm, rfl, rfl, hF, hl⟩ := h
  rw [List.map_append] at e
  have e := List.append_cancel_left e
  cases hF with
  | nil => cases e
  | @cons _ g t y ws1 e1 hg ht hs h1 =>
    rw [List.map_cons] at e
    injection e with e2 e3
    subst e2
    cases t with
    | nil => exact absurd rfl (stand_ne hs)
    | cons a t =>
      rw [e1] at hl
      refine ⟨g, a, t, y, rfl, e1, hg, ht, hs, List.mem_append_right _ (.head _), hl, fun v => ⟨dn ++ [a :: t], ws1, by simp, by simp, h1, ?_⟩⟩
      simp only [List.length_append] at hl
      show y.length ≤ n
      omega
theorem pz_done {n : Nat} {ws : List (List Nat)} {r : List Nat} {c : List Nat × Tok} (h : PZ sp W U n ws r (ws.map S) c) : c.1 = r := by
  obtain ⟨dn, rm, e1, e2, hF, _⟩ := h
  have := congrArg List.length e2
  rw [e1] at this
  simp only [List.length_map, List.length_append] at this
  cases hF with
  | nil => rfl
  | cons => simp only [List.length_cons] at this; omega
/-- the end of the try statement: j empty tokens; or the quotation that isn't closed -/
inductive Fin1 (P : Params) (sp : Bool) (pu : Str) (x : List Nat) (lx : Addr) (ws : List (List Nat)) (told : List (List Nat)) (r : List Nat) (ft : Str) (lg : List (Addr × Obj)) : Prop
  | ok (e1 : ft = Str.ofString "") (e2 : told = ws ++ List.replicate (x.length + 2 - ws.length) []) (hc : Chkz sp (Wz pu) (Uz pu) x ws r) (hr : ∀ c ∈ r, isWs c = true) (hL : LZ P x pu sp lx .fin [] lg)
  | bad (g : List Nat) (q : Nat) (body : List Nat) (e1 : ft = Str.ofString "No closing quotation") (e2 : told = ws) (hc : Chkz sp (Wz pu) (Uz pu) x ws r) (e3 : r = g ++ q :: body) (hg : ∀ c ∈ g, isWs c = true) (hq : isQ q = true) (hb : q ∉ body)
end
def neE (y : Str) : Bool := !y.cps.toList.isEmpty
theorem neE_S (l : List Nat) : neE (S l) = !l.isEmpty := by unfold neE; rw [s_cps]
theorem flt_ne {ws : List (List Nat)} (h : ∀ t ∈ ws, t ≠ []) (j : Nat) : (((ws ++ List.replicate j []).map S).filter neE) = ws.map S := by
  rw [List.map_append, List.filter_append]
  have h1 : (ws.map S).filter neE = ws.map S := by
    rw [List.filter_eq_self]
    intro y hy
    obtain ⟨t, ht, rfl⟩ := List.mem_map.mp hy
    rw [neE_S]
    cases t with
    | nil => exact absurd rfl (h _ ht)
    | cons a r => rfl
  have h2 : ((List.replicate j ([] : List Nat)).map S).filter neE = [] := by
    rw [List.filter_eq_nil_iff]
    intro y hy
    obtain ⟨t, ht, rfl⟩ := List.mem_map.mp hy
    rw [List.eq_of_mem_replicate ht]
    decide
  rw [h1, h2, List.append_nil]
theorem strs_at {vs : List Value} {xs : List Str} (h : StrsAre vs xs) : ∀ (i : Nat) (v : Value), vs[i]? = some v → ∃ (y : Str) (t : Tok), xs[i]? = some y ∧ v = Value.str y t := by
  induction h with
  | nil => intro i v e; rw [List.getElem?_nil] at e; cases e
  | cons y t r ih =>
    intro i v e
    cases i with
    | zero => rw [List.getElem?_cons_zero] at e; exact ⟨_, _, List.getElem?_cons_zero, (Option.some.inj e).symm⟩
    | succ i => rw [List.getElem?_cons_succ] at e ⊢; exact ih i v e
theorem noz_q {W U : Nat → Bool} (H : ZF W U) {q : Nat} {b : List Nat} (h : isQ q = true) : noz isWs (q :: b) = true := by
  show (!isWs q) = true
  rw [H.qw q h]; rfl
section
variable {w : World} {A : Around} {E : Value → Shared → Prop} {s : Shared} {Q : Value → Shared → Prop}
theorem lstrip_S {g t : List Nat} {t0 u : Tok} (hg : ∀ c ∈ g, isWs c = true) (ht : t = [] ∨ noz isWs t = true) (hl : (g ++ t).length ≤ 1000) (h : ∀ t' k, Q (.str (S t) t') { s with toks := k }) :
    wpAny (model prog w) A (call (.builtin "str.lstrip") [.str (S (g ++ t)) t0, .str wsS1 u]) Q E s := by
  refine SC.lstripChars (fun t' k => ?_) ?_
  · have := lstrip_z hg ht
    rw [this]; exact h t' k
  · rw [s_len, sizeLine_eq]; omega
theorem starts_S {t r : List Nat} {t0 u : Tok} (h : Q (.bool true) s) : wpAny (model prog w) A (call (.builtin "str.startswith") [.str (S (t ++ r)) t0, .str (S t) u]) Q E s := by
  refine SC.startswith ?_
  rw [starts_z]; exact h
section
variable {h₀ : Heap} {L a b : Addr} {news : List (Addr × Obj)} {xs ys : List Value} {ka kb : Nat} {ds es : List Dat}
theorem ne_sameL (N : News h₀ L s.heap news) (ma : (a, listOf xs.toArray ka) ∈ news) (Da : DatAll [] xs ds) (mb : (b, listOf ys.toArray kb) ∈ news) (Db : DatAll [] ys es)
    (ha : ∀ d ∈ ds, kqdOk 8 d = true) (hu : A.units + 64 < cLine) (e : es = ds) (h : Q (.bool false) s) : wpAny (model prog w) A (compareOp .NotEq (.ref a) (.ref b)) Q E s := by
  subst e
  refine kqd_ne N ma rfl rfl Da (fun p hp => nomatch hp) mb rfl rfl Db (fun p hp => nomatch hp) ha ha hu ?_
  simpa using h
theorem eq_sameL (N : News h₀ L s.heap news) (ma : (a, listOf xs.toArray ka) ∈ news) (Da : DatAll [] xs ds) (mb : (b, listOf ys.toArray kb) ∈ news) (Db : DatAll [] ys es)
    (ha : ∀ d ∈ ds, kqdOk 8 d = true) (hu : A.units + 64 < cLine) (e : es = ds) (h : Q (.bool true) s) : wpAny (model prog w) A (compareOp .Eq (.ref a) (.ref b)) Q E s := by
  subst e
  refine kqd_eq N ma rfl rfl Da (fun p hp => nomatch hp) mb rfl rfl Db (fun p hp => nomatch hp) ha ha hu ?_
  simpa using h
end
theorem strs_datL {l : List (Addr × Obj)} : ∀ {vs : List Value} {ws : List Str}, StrsAre vs ws → DatAll l vs (ws.map Dat.str)
  | _, _, .nil => .nil
  | _, _, .cons _ _ r => .cons (.str _ _) (strs_datL r)
theorem rep_datL {l : List (Addr × Obj)} {v : Value} {d : Dat} (h : DatIn l v d) : ∀ n : Nat, DatAll l (List.replicate n v) (List.replicate n d)
  | 0 => .nil
  | n + 1 => by rw [List.replicate_succ, List.replicate_succ]; exact .cons h (rep_datL h n)
theorem dat_okS {tok : List Nat} (h : ∀ c ∈ tok, c < 1114112) : kqdOk 8 (.str (S tok)) = true := by
  have e : PyData.strOk (S tok) = true := by
    unfold PyData.strOk
    rw [Array.all_eq_true']
    intro c hc
    have : c ∈ tok := by simpa [S] using hc
    simpa using h c this
  exact e
theorem dats_okS {l : List (List Nat)} (h : ∀ t ∈ l, ∀ c ∈ t, c < 1114112) : ∀ d ∈ (l.map S).map Dat.str, kqdOk 8 d = true := by
  intro d hd
  obtain ⟨y, hy, rfl⟩ := List.mem_map.mp hd
  obtain ⟨t, ht, rfl⟩ := List.mem_map.mp hy
  exact dat_okS (h t ht)
theorem told_es {ws : List (List Nat)} {n : Nat} {k : Int} (hk : k.toNat = n) : (ws.map S).map Dat.str ++ List.replicate k.toNat (Dat.str (Str.ofString "")) = ((ws ++ List.replicate n []).map S).map Dat.str := by
  rw [hk, S_nil]
  simp
end
end Mine

end
section
local macro_rules | `(tactic| k_handed) => `(tactic| with_reducible assumption)
namespace Mine
/-! the lexer in the law's own frame -/
def MthZ (h : Heap) (lx : Addr) : Prop := ∃ ox es n, InstAt h lx ox 722 (some (dictOf es n)) ∧ getL (Str.ofString "get_token") es = some none ∧ getL (Str.ofString "read_token") es = some none
theorem mthZ {P : Params} {x : List Nat} {pu : Str} {sp : Bool} {lx : Addr} {st : S5} {inp : List Nat} {lg news : List (Addr × Obj)} {h₀ h : Heap} {L : Addr} (hL : LZ P x pu sp lx st inp lg) (N : News h₀ L h news) (hs : ∀ p ∈ lg, p ∈ news) : MthZ h lx := by
  obtain ⟨dx, pb, fs, io, pc, T1, k19, ev, f, sv, ln, tl, tt, n1, n2, m1, m2, m3, m4⟩ := lz_at hL
  exact ⟨_, _, _, InstAt.of_news N (hs _ m1) (hs _ m2), by k_get, by k_get⟩
section
variable {w : World} {A : Around} {E : Value → Shared → Prop} {s : Shared} {h₀ : Heap} {L lx f : Addr} {m : Str → Option Value} {K : Frag} {name : Str} {pl : Sem Bool} {Q : Value × List Value → Shared → Prop}
theorem get_methZ (F : Fr h₀ L s.heap m) (X₀ : K.In h₀) (hM : MthZ s.heap lx) (hg : plainGet K 722 name = true) (hf : findIn K (.ref 722) name = some (some (.ref f))) (ht : isFn K (.ref f) = true)
    (hn : name = Str.ofString "get_token" ∨ name = Str.ofString "read_token") (h : Q (.ref f, [.ref lx]) s) : wpAny (model prog w) A (getMethod (.ref lx) name pl) Q E s := by
  obtain ⟨ox, es, n, I, g1, g2⟩ := hM
  refine method_inst F X₀ I hg hf ht ?_ h
  rcases hn with rfl | rfl
  · exact g1
  · exact g2
end
theorem app_ownZ {w : World} {A : Around} {E : Value → Shared → Prop} {Q : Value → Shared → Prop} {s : Shared} {h₀ : Heap} {L l : Addr} {m : Str → Option Value} {R : List (Addr × Obj)} {vs : List Value} {v : Value} {k : Nat} (F : Fr h₀ L s.heap m) (N : News h₀ L s.heap ((l, listOf vs.toArray k) :: R)) (hR : ∀ p ∈ R, p.1 ≠ l) (hz : vs.length ≤ 1000000)
    (h : ∀ h', Fr h₀ L h' m → News h₀ L h' ((l, listOf (vs ++ [v]).toArray (k + 1)) :: R) → Q .none { s with heap := h' }) : wpAny (model prog w) A (call (.builtin "list.append") [.ref l, v]) Q E s := by
  refine append_K F N (Upd.head hR) (fun h' F' N' => ?_) (by rw [PySem.sizeLine_eq, List.size_toArray]; omega)
  rw [List.push_toArray] at N'
  exact h h' F' N'
theorem raised_subZ {base G h : Heap} {l : List Env} {e t : Addr} {cls : Value} {vs : List Value} {n1 n2 : List (Addr × Obj)} (R : RaisedS base G l e cls t vs n1 h) (hs : ∀ p ∈ n2, p ∈ n1) : RaisedS base G l e cls t vs n2 h := by
  obtain ⟨⟨B, hB, hk, hl, hfl, hnew⟩, htup⟩ := R
  exact ⟨⟨B, hB, hk, fun q hq => hl q (hs q hq), hfl, hnew⟩, htup⟩
/-- the state of the loop that reads -/
structure RdZ where
  told : List (List Nat)
  vs : List Value
  n : Nat
  st : S5
  inp : List Nat
  lg : List (Addr × Obj)
def RdP (P : Params) (x : List Nat) (pu : Str) (sp : Bool) (lx : Addr) (lg0 : List (Addr × Obj)) (pre : List Int) (c : RdZ) : Prop :=
  StrsAre c.vs (c.told.map S) ∧ TZ sp (Wz pu) (Uz pu) x pre.length c.told c.st c.inp ∧ LZ P x pu sp lx c.st c.inp c.lg ∧ SameZ lg0 c.lg
theorem strs_addZ {x : Str} {t : Tok} {ws : List Str} : ∀ {vs : List Value}, StrsAre vs ws → StrsAre (vs ++ [.str x t]) (ws ++ [x]) := by
  induction ws with
  | nil =>
    intro vs h
    cases h
    exact .cons _ _ .nil
  | cons w ws ih =>
    intro vs h
    cases h with
    | cons _ t r => exact .cons _ _ (ih r)
theorem TZ.inp_le {sp : Bool} {W U : Nat → Bool} {x inp : List Nat} {i : Nat} {told : List (List Nat)} {st : S5} (h : TZ sp W U x i told st inp) : inp.length ≤ x.length ∧ told.length = i ∧ (st = .white ∨ st = .fin ∧ inp = []) := by
  obtain ⟨ws, j, r, g, e1, hc, e2, hg, hst, hi, hl⟩ := h
  refine ⟨by omega, by rw [e1, hi]; simp, ?_⟩
  rcases hst with ⟨h, _⟩ | h
  · exact .inl h
  · exact .inr h
theorem rd_0 {P : Params} {x : List Nat} {pu : Str} {sp : Bool} {lx : Addr} {lg : List (Addr × Obj)} (hL : LZ P x pu sp lx .white x lg) : RdP P x pu sp lx lg [] ⟨[], [], 0, .white, x, lg⟩ := ⟨.nil, tz_0 x, hL, rfl⟩
theorem rd_ok {P : Params} {x : List Nat} {pu : Str} {sp : Bool} {lx : Addr} {lg0 lg' : List (Addr × Obj)} {pre : List Int} {c : RdZ} {k : Int} {t : List Nat} {tt : Tok} {st' : S5} {inp' : List Nat} (h : RdP P x pu sp lx lg0 pre c)
    (hT : TZ sp (Wz pu) (Uz pu) x (pre.length + 1) (c.told ++ [t]) st' inp') (hL : LZ P x pu sp lx st' inp' lg') (hs : SameZ c.lg lg') : RdP P x pu sp lx lg0 (pre ++ [k]) ⟨c.told ++ [t], c.vs ++ [.str (S t) tt], c.n + 1, st', inp', lg'⟩ := by
  obtain ⟨h1, h2, h3, h4⟩ := h
  refine ⟨?_, ?_, hL, Eq.trans hs h4⟩
  · show StrsAre (c.vs ++ [.str (S t) tt]) ((c.told ++ [t]).map S)
    rw [List.map_append]
    exact strs_addZ h1
  · rw [List.length_append]; exact hT
/-- the end, all read -/
theorem fin_ok {P : Params} {x : List Nat} {pu : Str} {sp : Bool} {lx : Addr} {lg0 : List (Addr × Obj)} {pre : List Int} {c : RdZ} (h : RdP P x pu sp lx lg0 pre c) (hp : pre.length = x.length + 2) : ∃ ws r, Fin1 P sp pu x lx ws c.told r (Str.ofString "") c.lg := by
  obtain ⟨h1, h2, h3, h4⟩ := h
  rw [hp] at h2
  obtain ⟨ws, r, e1, hc, hr, hst, hi⟩ := tz_end h2
  rw [hst, hi] at h3
  exact ⟨ws, r, .ok rfl e1 hc hr h3⟩
theorem fin_bad {P : Params} {x : List Nat} {pu : Str} {sp : Bool} {lx : Addr} {told : List (List Nat)} {q : Nat} {body : List Nat} {lg : List (Addr × Obj)} (h : FaultZ sp (Wz pu) (Uz pu) x told q body) : ∃ r, Fin1 P sp pu x lx told told r (Str.ofString "No closing quotation") lg := by
  obtain ⟨r, g, h1, h2, h3, h4, h5⟩ := h
  exact ⟨r, .bad g q body rfl rfl h1 h2 h3 h4 h5⟩
theorem has2Z {m : Str → Option Value} {a1 a2 : Str × Value} (h1 : m a1.1 = some a1.2) (h2 : m a2.1 = some a2.2) : Has m [a1, a2] := by
  intro p hp
  simp only [List.mem_cons, List.not_mem_nil, or_false] at hp
  rcases hp with rfl | rfl <;> assumption
theorem has6Z {m : Str → Option Value} {a1 a2 a3 a4 a5 a6 : Str × Value} (h1 : m a1.1 = some a1.2) (h2 : m a2.1 = some a2.2) (h3 : m a3.1 = some a3.2) (h4 : m a4.1 = some a4.2) (h5 : m a5.1 = some a5.2) (h6 : m a6.1 = some a6.2) : Has m [a1, a2, a3, a4, a5, a6] := by
  intro p hp
  simp only [List.mem_cons, List.not_mem_nil, or_false] at hp
  rcases hp with rfl | rfl | rfl | rfl | rfl | rfl <;> assumption
theorem rest2Z {X a b : Str} {v va vb : Value} {u m0 : Str → Option Value} : ∀ z, z ≠ X → (∀ p ∈ [(a, va), (b, vb)], z ≠ p.1) → (fun y => if y = X then some v else kstB (fun z => if List.contains ([] : List Str) z then u z else m0 z) [(a, va), (b, vb)] y) z = m0 z := by
  intro z h1 h2
  have h3 : ¬ z = a := h2 (a, va) (.head _)
  have h4 : ¬ z = b := h2 (b, vb) (.tail _ (.head _))
  show (if z = X then some v else kstB (fun z => if List.contains ([] : List Str) z then u z else m0 z) [(a, va), (b, vb)] z) = m0 z
  rw [if_neg h1]
  show (if z = a then some va else (if z = b then some vb else m0 z)) = m0 z
  rw [if_neg h3, if_neg h4]
/-- a turn of the loop that reads ends -/
theorem rd_end {P : Params} {x : List Nat} {pu : Str} {sp : Bool} {lx ta : Addr} {lg0 : List (Addr × Obj)} {g h h2 : Heap} {L : Addr} {s : Shared} {tk tk2 : Nat} {X : Str} {ps : List (Str × Value)} {m1 m2 : Str → Option Value} {pre : List Int} {n : Int} {own N0 : List (Addr × Obj)} {c c0 : RdZ} (e0 : c0.lg = lg0)
  (F : Fr g L h2 m2) (N : News g L h2 N0) (hN : ∀ p ∈ ((ta, listOf c.vs.toArray c.n) :: c.lg) ++ own, p ∈ N0) (hm : Has m2 ps) (hr : ∀ z, z ≠ X → (∀ p ∈ ps, z ≠ p.1) → m2 z = m1 z) (hP : RdP P x pu sp lx lg0 (pre ++ [n]) c) :
  InvEndN g L (KstS (σ := RdZ) (fun c => (ta, listOf c.vs.toArray c.n) :: c.lg) (fun _ => ps) (fun _ => True) X [] m1 (RdP P x pu sp lx lg0) (pre ++ [n])) own (((ta, listOf c0.vs.toArray c0.n) :: c0.lg).map (·.1)) { s with heap := h, toks := tk } { s with heap := h2, toks := tk2 } := by
  refine ⟨_, _, _, _, (ta, listOf c.vs.toArray c.n) :: c.lg, rfl, F, N, fun p hp => hN p (List.mem_append_left _ hp), fun p hp => hN p (List.mem_append_right _ hp), ?_, c, rfl, trivial, hm, fun z hx hp _ => hr z hx hp, hP⟩
  rw [List.map_cons, List.map_cons, e0]
  exact congrArg _ hP.2.2.2
end Mine

end
section
namespace Mine
/-- what the try statement gives -/
def Rz (P : Params) (sp : Bool) (pu : Str) (tx : List Nat) (lx ta : Addr) (m' : Str → Option Value) (l : List (Addr × Obj)) (_ : Nat) : Prop :=
  ∃ told vs n ws r ft tf t2 t11 lg', Has m' [(Str.ofString "told", .ref ta), (Str.ofString "fault", .str ft tf), (Str.ofString "lex", .ref lx), (Str.ofString "text", .str (S tx) t11), (Str.ofString "runs", .str pu t2), (Str.ofString "split", .bool sp)] ∧
    l = (ta, listOf vs.toArray n) :: lg' ∧ StrsAre vs (told.map S) ∧ ApZ lg' [(ta, listOf vs.toArray n)] ∧ Fin1 P sp pu tx lx ws told r ft lg'
/-- what the loop in it raises -/
def PEz (base : Heap) (env : Env) (g : Heap) (L : Addr) (s : Shared) (sp : Bool) (pu : Str) (tx : List Nat) (lx ta : Addr) (e : Value) (s' : Shared) : Prop :=
  ∃ h' ea t g' k tv m' told vs n q body tf t2 t11, e = .ref ea ∧ s' = { s with heap := h', toks := k } ∧ RaisedS base g' [env] ea (.type "ValueError") t [.str (msgZ (.quote q)) tv] [(ta, listOf vs.toArray n)] h' ∧ Fr g L g' m' ∧ g'.UpToSlots h' ∧
    Has m' [(Str.ofString "told", .ref ta), (Str.ofString "fault", .str (Str.ofString "") tf), (Str.ofString "lex", .ref lx), (Str.ofString "text", .str (S tx) t11), (Str.ofString "runs", .str pu t2), (Str.ofString "split", .bool sp)] ∧
    StrsAre vs (told.map S) ∧ FaultZ sp (Wz pu) (Uz pu) tx told q body
end Mine
namespace Mine
theorem abz {w : World} {A : Around} {env : Env} {st : Stmt} {Q : Flow → Shared → Prop} {E : Value → Shared → Prop} {s : Shared} {g : Heap} {L : Addr} {m : Str → Option Value} (_ : Fr g L s.heap m) (P : Params) (sp : Bool) (pu : Str) (tx : List Nat) (lx ta : Addr)
    (hq : ∀ s', SP g L s (Rz P sp pu tx lx ta) s' → Q .next s') (he : ∀ e s', PEz g env g L s sp pu tx lx ta e s' → E e s') (hp : PassesOwn (model prog w) A env E)
    (h : ∀ (Q' : Flow → Shared → Prop) (E' : Value → Shared → Prop), (∀ s', SP g L s (Rz P sp pu tx lx ta) s' → Q' .next s') → (∀ e s', PEz g env g L s sp pu tx lx ta e s' → E' e s') → PassesOwn (model prog w) A env E' → wpAny (model prog w) A (exec st env) Q' E' s) : wpAny (model prog w) A (exec st env) Q E s := h Q E hq he hp
end Mine
namespace Mine
open PySem.Calls PyProof.Rows.LCg PyProof.Rows.LCt
theorem rz_mk {P : Params} {sp : Bool} {pu : Str} {tx : List Nat} {lx ta : Addr} {m' : Str → Option Value} {tk : Nat} {told : List (List Nat)} {vs : List Value} {n : Nat} {ws : List (List Nat)} {r : List Nat} {ft : Str} {tf t2 t11 : Tok} {lg' : List (Addr × Obj)}
  (h1 : Has m' [(Str.ofString "told", .ref ta), (Str.ofString "fault", .str ft tf), (Str.ofString "lex", .ref lx), (Str.ofString "text", .str (S tx) t11), (Str.ofString "runs", .str pu t2), (Str.ofString "split", .bool sp)]) (h3 : StrsAre vs (told.map S)) (h4 : ApZ lg' [(ta, listOf vs.toArray n)]) (h5 : Fin1 P sp pu tx lx ws told r ft lg') :
  Rz P sp pu tx lx ta m' ((ta, listOf vs.toArray n) :: lg') tk := ⟨told, vs, n, ws, r, ft, tf, t2, t11, lg', h1, rfl, h3, h4, h5⟩
theorem rsz (n : Nat) : Builtin.Range.rangeSize 0 ((n : Int) + 2) 1 = ((n + 2 : Nat) : Int) := by rw [rangeSize_nat]; omega
theorem rsm {n : Nat} (h : n ≤ 1000) : Builtin.Range.small 0 ((n : Int) + 2) 1 = true := small_one (by omega) (by omega) (by omega) (by omega)
theorem news_rotZ {g h : Heap} {L : Addr} {a : Addr × Obj} {l o : List (Addr × Obj)} (N : News g L h ((a :: l) ++ o)) : News g L h (l ++ (a :: o)) := by
  intro p hp
  refine N p ?_
  simp only [List.mem_append, List.mem_cons, List.cons_append] at hp ⊢
  rcases hp with h | h | h <;> simp [h]
theorem news_rotY {g h : Heap} {L : Addr} {a : Addr × Obj} {l o : List (Addr × Obj)} (N : News g L h (l ++ (a :: o))) : News g L h (a :: (l ++ o)) := by
  intro p hp
  refine N p ?_
  simp only [List.mem_append, List.mem_cons] at hp ⊢
  rcases hp with h | h | h <;> simp [h]
theorem ap_ownZ {lg0 lg own : List (Addr × Obj)} {ta : Addr} {o0 o : Obj} (hap : ApZ lg0 [(ta, o)]) (hs : SameZ lg0 lg) (hoff : OwnOff own (((ta, o0) :: lg0).map (·.1))) : ApZ lg ((ta, o) :: own) := by
  intro q hq p hp
  have hq2 : q.1 ∈ lg.map (·.1) := List.mem_map.mpr ⟨q, hq, rfl⟩
  rcases List.mem_cons.mp hp with rfl | hp
  · exact (hap.same hs) q hq _ (.head _)
  · rw [hs] at hq2
    exact hoff.ne (.tail _ hq2) p hp
theorem ta_off {lg0 lg own : List (Addr × Obj)} {ta : Addr} {o0 o : Obj} (hap : ApZ lg0 [(ta, o)]) (hs : SameZ lg0 lg) (hoff : OwnOff own (((ta, o0) :: lg0).map (·.1))) : ∀ p ∈ lg ++ own, p.1 ≠ ta := by
  intro p hp
  rcases List.mem_append.mp hp with hp | hp
  · exact Ne.symm ((hap.same hs) p hp _ (.head _))
  · exact hoff.ne (.head _) p hp
theorem fin_ws {P : Params} {sp : Bool} {pu : Str} {tx : List Nat} {lx : Addr} {told ws : List (List Nat)} {r : List Nat} {ft : Str} {lg : List (Addr × Obj)} (h : Fin1 P sp pu tx lx ws told r ft lg) : (∃ j, told = ws ++ List.replicate j []) ∧ Chkz sp (Wz pu) (Uz pu) tx ws r := by
  cases h with
  | ok e1 e2 hc hr hL => exact ⟨⟨_, e2⟩, hc⟩
  | bad g q body e1 e2 hc e3 hg hq hb => exact ⟨⟨0, by simp [e2]⟩, hc⟩
theorem rd_len {P : Params} {x : List Nat} {pu : Str} {sp : Bool} {lx : Addr} {lg0 : List (Addr × Obj)} {pre : List Int} {c : RdZ} (h : RdP P x pu sp lx lg0 pre c) : c.vs.length = pre.length := by
  obtain ⟨h1, h2, h3, h4⟩ := h
  rw [h1.length, List.length_map]
  exact h2.inp_le.2.1
section
variable {w : World} {A : Around} {s : Shared} {h₀ : Heap} {L : Addr} {m : Str → Option Value} {env : Env}
theorem flt_told {ct elt : Expr} {x : Str} {scope : Scope} {cl : List (Str × Addr)} {S : List (Addr × Obj) → Prop} {Fin : List Value → List (Addr × Obj) → Prop} {news : List (Addr × Obj)} {vs : List Value} {xs : List Str} (hv : StrsAre vs xs) (f : Str → Bool)
    (turn : ∀ y t I oI C oC D m₂ ys h tk (E' : Value → Shared → Prop), y ∈ xs → NsObj oC m₂ → m₂ x = some (.str y t) → Fr h₀ L h m → News h₀ L h ((I, oI) :: (C, oC) :: (D, lst ys) :: news) → Off3 I C D news → ((@Ne Nat I C) ∧ (@Ne Nat I D) ∧ (@Ne Nat C D)) →
      wpAny (model prog w) A (isTrue ct (compEnvC scope cl C env) (eval ct (compEnvC scope cl C env))) (fun b s' => if b = true then wpAny (model prog w) A (eval elt (compEnvC scope cl C env)) (CompEnd h₀ L m { s with heap := h, toks := tk } I oI C oC D (lst ys) S (fun v news' => news' = news ∧ f y = true ∧ ∃ u, v = .str y u)) E' s'
        else CompEnd h₀ L m { s with heap := h, toks := tk } I oI C oC D (lst ys) S (fun _ news' => news' = news ∧ f y = false) Value.none s') E' { s with heap := h, toks := tk })
    (fin : ∀ ys, StrsAre ys (xs.filter f) → Fin ys news) : CompRestT prog w A h₀ L m env ct elt x scope cl s S (fun i v => vs.toArray[i]? = some v) Fin vs.toArray.size 0 [] news := by
  have e : vs.toArray.size = xs.length := by rw [List.size_toArray]; exact hv.length
  rw [e]
  exact flt_rest xs f (fun i v h => strs_at hv i v (by rw [← List.getElem?_toArray]; exact h)) turn fin
end
end Mine
namespace Mine
theorem pe_mk {base : Heap} {env : Env} {g : Heap} {L : Addr} {s : Shared} {sp : Bool} {pu : Str} {tx : List Nat} {lx ta ea t : Addr} {h' g' : Heap} {k : Nat} {tv : Tok} {m' : Str → Option Value} {told : List (List Nat)} {vs : List Value} {n q : Nat} {body : List Nat} {tf t2 t11 : Tok}
  (h1 : RaisedS base g' [env] ea (.type "ValueError") t [.str (msgZ (.quote q)) tv] [(ta, listOf vs.toArray n)] h') (h2 : Fr g L g' m') (h3 : g'.UpToSlots h')
  (h4 : Has m' [(Str.ofString "told", .ref ta), (Str.ofString "fault", .str (Str.ofString "") tf), (Str.ofString "lex", .ref lx), (Str.ofString "text", .str (S tx) t11), (Str.ofString "runs", .str pu t2), (Str.ofString "split", .bool sp)])
  (h5 : StrsAre vs (told.map S)) (h6 : FaultZ sp (Wz pu) (Uz pu) tx told q body) : PEz base env g L s sp pu tx lx ta (.ref ea) { s with heap := h', toks := k } :=
  ⟨h', ea, t, g', k, tv, m', told, vs, n, q, body, tf, t2, t11, rfl, rfl, h1, h2, h3, h4, h5, h6⟩
theorem rd_sz {P : Params} {x : List Nat} {pu : Str} {sp : Bool} {lx : Addr} {lg0 : List (Addr × Obj)} {pre : List Int} {c : RdZ} {n : Nat} (h : RdP P x pu sp lx lg0 pre c) (h1 : pre.length < n + 2) (h2 : n ≤ 1000) : c.vs.length ≤ 1000000 := by
  have := rd_len h
  omega
theorem fin_len {P : Params} {sp : Bool} {pu : Str} {tx : List Nat} {lx : Addr} {told ws : List (List Nat)} {r : List Nat} {ft : Str} {lg : List (Addr × Obj)} (h : Fin1 P sp pu tx lx ws told r ft lg) : told.length ≤ tx.length + 2 ∧ ws.length ≤ tx.length := by
  cases h with
  | ok e1 e2 hc hr hL =>
    have := hc.len
    rw [e2, List.length_append, List.length_replicate]
    omega
  | bad g q body e1 e2 hc e3 hg hq hb =>
    have := hc.len
    rw [e2]
    omega
theorem told_sz {vs : List Value} {told : List (List Nat)} {n : Nat} (h : StrsAre vs (told.map S)) (h1 : told.length ≤ n + 2) (h2 : n ≤ 1000) : vs.toArray.size ≤ sizeLine := by
  rw [List.size_toArray, h.length, List.length_map, sizeLine_eq]; omega
end Mine
namespace Mine
theorem tok_len {g y t : List Nat} {a : Nat} (h : (g ++ ((a :: t) ++ y)).length ≤ 360) : (a :: t).length ≤ 100000 := by
  simp only [List.length_append, List.length_cons] at h ⊢
  omega
theorem tok_len2 {g y t : List Nat} {a : Nat} (h : (g ++ ((a :: t) ++ y)).length ≤ 360) : (a :: t).length ≤ 1000 ∧ y.length ≤ 1000 := by
  simp only [List.length_append, List.length_cons] at h ⊢
  omega
end Mine

end
section
namespace Mine
theorem s_sz {l : List Nat} (h : l.length ≤ 1000) : (S l).length ≤ sizeLine := by rw [s_len, sizeLine_eq]; omega
theorem rest1Z {X a : Str} {v va v1 v2 : Value} {b : List (Str × Value)} {u m0 : Str → Option Value} : ∀ z, z ≠ X → (∀ p ∈ (a, v1) :: b, z ≠ p.1) → (fun y => if y = a then some v1 else if y = a then some v2 else if y = X then some v else kstB (fun z => if List.contains ([] : List Str) z then u z else m0 z) [(a, va)] y) z = m0 z := by
  intro z h1 h2
  have h3 : ¬ z = a := h2 (a, v1) (.head _)
  show (if z = a then some v1 else if z = a then some v2 else if z = X then some v else kstB (fun z => if List.contains ([] : List Str) z then u z else m0 z) [(a, va)] z) = m0 z
  rw [if_neg h3, if_neg h3, if_neg h1]
  show (if z = a then some va else m0 z) = m0 z
  rw [if_neg h3]
theorem fx_end {σ : Type} {ps : σ → List (Str × Value)} {P : List Str → σ → Prop} {c : σ} {news own N0 : List (Addr × Obj)} {g h h2 : Heap} {L : Addr} {s : Shared} {tk tk2 : Nat} {X n : Str} {m1 m2 : Str → Option Value} {pre : List Str}
  (F : Fr g L h2 m2) (N : News g L h2 N0) (hN : ∀ p ∈ news ++ own, p ∈ N0) (hm : Has m2 (ps c)) (hr : ∀ z, z ≠ X → (∀ p ∈ ps c, z ≠ p.1) → m2 z = m1 z) (hP : P (pre ++ [n]) c) :
  InvEndN g L (StS (fun _ : σ => news) ps X [] m1 P (pre ++ [n])) own (news.map (·.1)) { s with heap := h, toks := tk } { s with heap := h2, toks := tk2 } :=
  ⟨_, _, _, _, news, rfl, F, N, fun p hp => hN p (List.mem_append_left _ hp), fun p hp => hN p (List.mem_append_right _ hp), rfl, c, rfl, hm, fun z hx hp _ => hr z hx hp, hP⟩
theorem has1Z {m : Str → Option Value} {a1 : Str × Value} (h1 : m a1.1 = some a1.2) : Has m [a1] := by
  intro p hp
  rw [List.mem_singleton.mp hp]; exact h1
section
variable {w : World} {A : Around} {E : Value → Shared → Prop} {s : Shared} {Q : Value → Shared → Prop} {h₀ : Heap} {L : Addr} {m : Str → Option Value} {news : List (Addr × Obj)}
theorem lstrip_S0 {g : List Nat} {t0 u : Tok} (hg : ∀ c ∈ g, isWs c = true) (hl : g.length ≤ 1000) (h : ∀ t' k, Q (.str (S []) t') { s with toks := k }) :
    wpAny (model prog w) A (call (.builtin "str.lstrip") [.str (S g) t0, .str wsS1 u]) Q E s := by
  have e : S g = S (g ++ []) := by rw [List.append_nil]
  rw [e]
  exact lstrip_S hg (.inl rfl) (by rw [List.append_nil]; exact hl) h
theorem cut_S {value slice : Expr} {t r : List Nat} {t0 ui : Tok} (hF : Fr h₀ L s.heap m) (hN : News h₀ L s.heap news) (hl : (t ++ r).length ≤ 1000)
    (hs : subscripted slice false (.str (S (t ++ r)) t0) (.ref s.heap.objs.size) = operate [.ref s.heap.objs.size, .str (S (t ++ r)) t0] (getItem (.str (S (t ++ r)) t0) (.ref s.heap.objs.size)))
    (ht : ∀ r', letTemporaryGo value (.str (S (t ++ r)) t0) r' = pure ()) (h : ∀ h' t' k, Fr h₀ L h' m → News h₀ L h' news → Q (.str (S r) t') { s with heap := h', toks := k }) :
    wpAny (model prog w) A (subscriptTail value slice (.str (S (t ++ r)) t0) (.ref s.heap.objs.size)) Q E { s with heap := s.heap.push { cls := .type "slice", data := .fields #[.int t.length ui, .none, .none] } } := by
  refine slice_strN_sn hF hN (fun h' t' k a b => ?_) hs ht (s_sz hl)
  rw [slice_z]
  exact h h' t' k a b
theorem lenL {l : Addr} {vs : List Value} {k : Nat} (N : News h₀ L s.heap news) (hm : (l, listOf vs.toArray k) ∈ news) (hv : vs.length ≤ 1000000)
    (h : Q (.int vs.length (s.toks + 1)) { s with toks := s.toks + 1 + 1 }) : wpAny (model prog w) A (call (.builtin "len") [.ref l]) Q E s :=
  call_len_list ⟨_, N.get hm, rfl, k, rfl⟩ (by simp; omega) (by simpa using h)
theorem new1 {v : Value} (F : Fr h₀ L s.heap m) (N : News h₀ L s.heap news)
    (h : ∀ l h', Fr h₀ L h' m → News h₀ L h' ((l, listOf [v].toArray 0) :: news) → Q (.ref l) { s with heap := h' }) : wpAny (model prog w) A (newList [v]) Q E s :=
  newList_K (hsz := Nat.le_trans (show 1 ≤ 100 by decide) (by decide +kernel)) F N (fun l h' F' N' _ => h l h' F' N')
theorem rep_flatZ (v : Value) : ∀ (n : Nat) (a : List Value), List.foldl (fun x1 x2 => x1 ++ x2) a.toArray (List.replicate n #[v]) = (a ++ List.replicate n v).toArray
  | 0, a => by simp
  | n + 1, a => by
    rw [List.replicate_succ, List.foldl_cons]
    have e : a.toArray ++ #[v] = (a ++ [v]).toArray := by simp
    rw [e, rep_flatZ v n]
    simp [List.replicate_succ]
theorem mulZ {l : Addr} {v : Value} {k : Nat} {x : Int} {u : Tok}
    (F : Fr h₀ L s.heap m) (N : News h₀ L s.heap news) (hm : (l, listOf [v].toArray k) ∈ news) (hlo : -1000000 ≤ x) (hhi : x < 1000000)
    (h : ∀ D h', Fr h₀ L h' m → News h₀ L h' ((D, listOf (List.replicate x.toNat v).toArray 0) :: news) → Q (.ref D) { s with heap := h' }) :
    wpAny (model prog w) A (binaryOp .Mult (.ref l) (.int x u)) Q E s := by
  refine mul_list F N (N.get hm) (by omega) (by omega) (by simp; omega) fun h' F' N' => ?_
  have e : List.foldl (fun x1 x2 => x1 ++ x2) #[] (List.replicate (if [v].toArray.isEmpty = true then 0 else x.toNat) [v].toArray) = (List.replicate x.toNat v).toArray := rep_flatZ v x.toNat []
  rw [e] at N'
  exact h _ h' F' N'
theorem catZ {l b : Addr} {vs ws : List Value} {k j : Nat}
    (F : Fr h₀ L s.heap m) (N : News h₀ L s.heap news) (hm : (l, listOf vs.toArray k) ∈ news) (hb : (b, listOf ws.toArray j) ∈ news) (hsz : vs.length + ws.length ≤ 1000000)
    (h : ∀ D h', Fr h₀ L h' m → News h₀ L h' ((D, listOf (vs ++ ws).toArray 0) :: news) → Q (.ref D) { s with heap := h' }) :
    wpAny (model prog w) A (binaryOp .Add (.ref l) (.ref b)) Q E s :=
  add_lists (hsz := Nat.le_trans hsz (by decide +kernel)) F N ⟨_, N.get hm, rfl, k, rfl⟩ ⟨_, N.get hb, rfl, j, rfl⟩ fun h' F' N' => h _ h' F' N'
end
end Mine
namespace Mine
theorem rest_len {sp : Bool} {W U : Nat → Bool} {x r : List Nat} {ws : List (List Nat)} (h : Chkz sp W U x ws r) (hx : x.length ≤ 360) : r.length ≤ 1000 := by
  have := h.len
  omega
end Mine
namespace Mine
theorem cut_len {g t y : List Nat} (h : (g ++ (t ++ y)).length ≤ 360) : (t ++ y).length ≤ 1000 := by
  rw [List.length_append] at h
  omega
theorem mul_bd {a b c : Nat} (e : b = c) (h : c ≤ a) (h2 : a ≤ 360) : -1000000 ≤ (a : Int) + 2 - b ∧ (a : Int) + 2 - b < 1000000 := by omega
theorem mul_nat {a b c : Nat} (h : b = c) : ((a : Int) + 2 - b).toNat = a + 2 - c := by omega
theorem told_lt {sp : Bool} {W U : Nat → Bool} {x r : List Nat} {ws told : List (List Nat)} {j : Nat} (h : Chkz sp W U x ws r) (e : told = ws ++ List.replicate j []) (hx : ∀ c ∈ x, c < 1114112) : ∀ t ∈ told, ∀ c ∈ t, c < 1114112 := by
  intro t ht c hc
  rw [e] at ht
  rcases List.mem_append.mp ht with ht | ht
  · exact hx c (h.mem.1 t ht c hc)
  · rw [List.eq_of_mem_replicate ht] at hc; cases hc
theorem sub5 {g h : Heap} {L : Addr} {a b c d e : Addr × Obj} {l : List (Addr × Obj)} (N : News g L h (a :: b :: c :: d :: e :: l)) : News g L h (l ++ [e]) := by
  intro p hp
  refine N p ?_
  rcases List.mem_append.mp hp with hp | hp
  · exact .tail _ (.tail _ (.tail _ (.tail _ (.tail _ hp))))
  · rw [List.mem_singleton.mp hp]
    exact .tail _ (.tail _ (.tail _ (.tail _ (.head _))))
theorem nb {q : Nat} {body : List Nat} (h : q ∉ body) : (S body).cps.toList.contains q = false := by
  rw [s_cps]
  simpa using h
theorem hl0 {q : Nat} {body : List Nat} : (S (q :: body)).length = body.length + 1 := by rw [s_len]; rfl
theorem cat_sz {ys : List Value} {v : Value} {ws : List (List Nat)} {n : Nat} (h : ys.length = ws.length) (h1 : ws.length ≤ n) (h2 : n ≤ 360) : ys.length + (List.replicate ((n : Int) + 2 - ys.length).toNat v).length ≤ 1000000 := by
  rw [List.length_replicate]; omega
theorem ys_sz {ys : List Value} {ws : List (List Nat)} {n : Nat} (h : ys.length = ws.length) (h1 : ws.length ≤ n) (h2 : n ≤ 360) : ys.length ≤ 1000000 := by omega
theorem cut_len1 {q : Nat} {g body : List Nat} (h : (g ++ q :: body).length ≤ 1000) : ([q] ++ body).length ≤ 1000 := by
  rw [List.length_append] at h
  show (q :: body).length ≤ 1000
  omega
end Mine

end
local macro_rules | `(tactic| walk_at "exec For Name Call cons nil") => `(tactic| (k_here; (rename Fr _ _ _ _ => lF'); (with_reducible refine For_invVF lF' ?k1 ?k2 ?_ ?k3 ?k4); (case k1 => exact rfl); (case k2 => exact rfl); (case k3 => exact fun _ => rfl); (case k4 => passes_own); k_whole))
local macro_rules | `(tactic| walk_at "exec For Name List cons nil") => `(tactic| (k_here; (rename Fr _ _ _ _ => lF'); (with_reducible refine For_invVF lF' ?k1 ?k2 ?_ ?k3 ?k4); (case k1 => exact rfl); (case k2 => exact rfl); (case k3 => exact fun _ => rfl); (case k4 => passes_own); k_whole))
local macro_rules | `(tactic| walk_at "callWith ref") => `(tactic| (k_here; first
  | ((with_reducible show wpAny _ _ (callWith _ _ _ (backTo _ (starEach [] _)) []) _ _ _); (refine' callWith_K0 (Frag.In.keeps (by with_reducible assumption) (Fr.keep (by assumption))) (by k_is) ?_); k_whole; (try dsimp only [List.nil_append, List.cons_append, List.append_nil]))
  | ((refine' callWith_K (by k_asm) (by k_is) ?_); k_whole)))
local macro_rules | `(tactic| walk_at "compareOp NotEq str str") => `(tactic| (k_here; (first | with_reducible refine' Mine.ne_Sn ?_ | with_reducible refine' Mine.ne_Sc ?_); k_whole))
local macro_rules | `(tactic| walk_at "compareOp Eq str str") => `(tactic| (k_here; (first | with_reducible refine' Mine.eq_Sn ?_ | with_reducible refine' Mine.eq_Sc ?_); k_whole))
local macro_rules | `(tactic| walk_at "getMethod ref") => `(tactic| (k_here; k_dflt (refine' Mine.get_methZ (by k_asm) (by k_asm) (by k_asm) (by k_is) (by k_is) (by k_is) (by first | exact Or.inl rfl | exact Or.inr rfl) ?_; k_whole)))
local macro_rules | `(tactic| walk_at "leaving ref") => `(tactic| (k_here; (refine' leave_onS ?k1 ?k2 ?k3 ?k4 ?_; (case k3 => assumption); (case k2 => assumption); (case k1 => assumption); (case k4 => assumption); k_whole; intro h' S' R' U'; (try dsimp only at S' R' U' ⊢))))
local macro_rules | `(tactic| walk_at "exec Try") => `(tactic| ((with_reducible show wpAny _ _ (exec (Stmt.Try _ (_ :: _) _ [] _) _) _ _ _); refine wpAny_Try_except ?_))
local macro_rules | `(tactic| walk_at "compareOp In str str") => `(tactic| (k_here; (with_reducible refine' Mine.in_it ?h ?e ?_); (case h => exact Mine.item0 _ _); (case e => with_reducible assumption); k_whole))
local macro_rules | `(tactic| walk_at "compareOp NotIn str str") => `(tactic| (k_here; (with_reducible refine' Mine.notin_it ?h ?e ?_); (case h => exact Mine.item0 _ _); (case e => with_reducible assumption); k_whole))
namespace Mine
theorem free {goal_ : Prop} (a b c d e f g h i j k l m n o q r s t u v w x y z A B C D E F G H I J K L M N O P Q R S T U V W X Y Z e1 e2 e3 e4 e5 e6 e7 e8 e9 e10 k1 k2 k3 k4 k5 k6 k7 k8 k9 k10 k11 k12 k13 k14 k15 h1 h2 h3 h4 h5 h6 hr hp hi hv hz sz sub hQ hE hP hC hx ka kb : True) (rest_ : goal_) : goal_ := rest_
end Mine
theorem Mine.law_all.tw1861297953188256277 : True := trivial
theorem Mine.law_all.tw808926787595212315 : True := trivial
theorem Mine.law_all.tw14548401533875796570 : True := trivial
theorem Mine.law_all.tw1785986355756540501 : True := trivial
theorem Mine.law_all.tw2103784332974290115 : True := trivial
theorem Mine.law_all.tw11645036861229193933 : True := trivial
theorem Mine.law_all.tw12384212371979683370 : True := trivial
theorem Mine.law_all.tw12272814491482326452 : True := trivial
theorem Mine.law_all.tw9326504959393919199 : True := trivial
theorem Mine.law_all.tw6478741611622195713 : True := trivial
theorem Mine.law_all.tw17264329242000108839 : True := trivial
theorem Mine.law_all.tw17240311926567722313 : True := trivial
theorem Mine.law_all.tw15888606964102597316 : True := trivial
theorem Mine.law_all.tw5214331894307755913 : True := trivial
theorem Mine.law_all.tw6355135678535457092 : True := trivial
theorem Mine.law_all.tw12018720973117135595 : True := trivial
theorem Mine.law_all.tw4354770290612424148 : True := trivial
theorem Mine.law_all.tw6541656116107318362 : True := trivial
theorem Mine.law_all.tw13833317127055801060 : True := trivial
theorem Mine.law_all.tw9135970852051700672 : True := trivial
theorem Mine.law_all.tw2539981353633615827 : True := trivial
theorem Mine.law_all.tw7271922334478322552 : True := trivial
theorem Mine.law_all.tw18003831002243859257 : True := trivial
theorem Mine.law_all.tw1605926451748883982 : True := trivial
theorem Mine.law_all.tw7406990479455149028 : True := trivial
theorem Mine.law_all.tw12729013581757030507 : True := trivial
theorem Mine.law_all.tw11604076886869528917 : True := trivial
theorem Mine.law_all.tw17711649757482097080 : True := trivial
theorem Mine.law_all.tw3983192056104361193 : True := trivial
theorem Mine.law_all.tw13253971527945154862 : True := trivial
theorem Mine.law_all.tw9642360315720231220 : True := trivial
theorem Mine.law_all.tw13274840464982359763 : True := trivial
theorem Mine.law_all.tw15327138436386969399 : True := trivial
theorem Mine.law_all.tw15807664475251556305 : True := trivial
theorem Mine.law_all.tw14024095959683317476 : True := trivial
theorem Mine.law_all.tw12829037096407747505 : True := trivial
theorem Mine.law_all.tw7318158564511299729 : True := trivial
theorem Mine.law_all.tw4481082551865045004 : True := trivial
theorem Mine.law_all.tw17074971947010181610 : True := trivial
theorem Mine.law_all.tw10623982647197800651 : True := trivial
theorem Mine.law_all.tw10253732280001569212 : True := trivial
theorem Mine.law_all.tw15515702583689602614 : True := trivial
theorem Mine.law_all.tw16348121039232670680 : True := trivial
theorem Mine.law_all.tw12308792829718365582 : True := trivial
theorem Mine.law_all.tw1938755509981744232 : True := trivial
theorem Mine.law_all.tw14640322939972922974 : True := trivial
theorem Mine.law_all.tw8847300426190641854 : True := trivial
theorem Mine.law_all.tw15414137240233699022 : True := trivial
theorem Mine.law_all.tw15638214500589831823 : True := trivial
theorem Mine.law_all.tw16651006203443513197 : True := trivial
theorem Mine.law_all.tw6814774676840398217 : True := trivial
theorem Mine.law_all.tw12458883203613716781 : True := trivial
theorem Mine.law_all.tw5062461714990062738 : True := trivial
theorem Mine.law_all.tw10090999975856555344 : True := trivial
theorem Mine.law_all.tw8292125754366032315 : True := trivial
theorem Mine.law_all.tw5774103589672948085 : True := trivial
theorem Mine.law_all.tw14955915058466119356 : True := trivial
theorem Mine.law_all.tw2271960705470518616 : True := trivial
theorem Mine.law_all.tw978204252779252794 : True := trivial
theorem Mine.law_all.tw2126261026752179203 : True := trivial
theorem Mine.law_all.tw550076807988554015 : True := trivial
theorem Mine.law_all.tw87554848720477697 : True := trivial
theorem Mine.law_all.tw116477658778600319 : True := trivial
theorem Mine.law_all.tw1672642222964062884 : True := trivial
theorem Mine.law_all.tw15640896081885072018 : True := trivial
theorem Mine.law_all.tw10340441938079615943 : True := trivial
theorem Mine.law_all.tw9441140268209864922 : True := trivial
theorem Mine.law_all.tw8652508824891024273 : True := trivial
theorem Mine.law_all.tw16654605471950451980 : True := trivial
theorem Mine.law_all.tw11020806828292283134 : True := trivial
theorem Mine.law_all.tw4261436866732715612 : True := trivial
theorem Mine.law_all.tw8585119295471724657 : True := trivial
theorem Mine.law_all.tw8426454859378444244 : True := trivial
theorem Mine.law_all.tw8729561690571945798 : True := trivial
theorem Mine.law_all.tw14703302427499458811 : True := trivial
theorem Mine.law_all.tw6325109397354473172 : True := trivial
theorem Mine.law_all.tw11185291794543270386 : True := trivial
theorem Mine.law_all.tw2714459630560403676 : True := trivial
theorem Mine.law_all.tw6442390396111978729 : True := trivial
theorem Mine.law_all.tw9621619661464635597 : True := trivial
theorem Mine.law_all.tw12168520589393599259 : True := trivial
theorem Mine.law_all.tw742109610064614720 : True := trivial
theorem Mine.law_all.tw14967953119522679212 : True := trivial
theorem Mine.law_all.tw13048455256248648906 : True := trivial
theorem Mine.law_all.tw12308355309068749982 : True := trivial
theorem Mine.law_all.tw2252203913613538044 : True := trivial
theorem Mine.law_all.tw2534205154373081525 : True := trivial
theorem Mine.law_all.tw4710498895635838384 : True := trivial
theorem Mine.law_all.tw7555395380386181586 : True := trivial
theorem Mine.law_all.tw17035828453170814377 : True := trivial
theorem Mine.law_all.tw18260159938748754179 : True := trivial
theorem Mine.law_all.tw2454280419872470169 : True := trivial
theorem Mine.law_all.tw12078470571680310831 : True := trivial
theorem Mine.law_all.tw1270322770108976961 : True := trivial
theorem Mine.law_all.tw9144500139776326259 : True := trivial
theorem Mine.law_all.tw144113969167408035 : True := trivial
theorem Mine.law_all.tw12821476480046859578 : True := trivial
theorem Mine.law_all.tw8102590376130340518 : True := trivial
theorem Mine.law_all.tw13444409871249696073 : True := trivial
theorem Mine.law_all.tw2455935472648855358 : True := trivial
theorem Mine.law_all.tw13985060576507940359 : True := trivial
theorem Mine.law_all.tw7791439051762490624 : True := trivial
theorem Mine.law_all.tw2222952681925917930 : True := trivial
theorem Mine.law_all.tw11208032702916000851 : True := trivial
theorem Mine.law_all.tw13809103348235374114 : True := trivial
theorem Mine.law_all.tw1071026390990159442 : True := trivial
theorem Mine.law_all.tw12912951368749151951 : True := trivial
theorem Mine.law_all.tw12338384112835736923 : True := trivial
theorem Mine.law_all.tw16317050728709778059 : True := trivial
theorem Mine.law_all.tw49386822889696764 : True := trivial
theorem Mine.law_all.tw7913414452795691321 : True := trivial
theorem Mine.law_all.tw4182408002180818360 : True := trivial
theorem Mine.law_all.tw404534946110283943 : True := trivial
theorem Mine.law_all.tw14534756301635893031 : True := trivial
theorem Mine.law_all.tw11254592457914836137 : True := trivial
theorem Mine.law_all.tw11169120883424520007 : True := trivial
theorem Mine.law_all.tw16731210891918897592 : True := trivial
theorem Mine.law_all.tw14022319627245857414 : True := trivial
theorem Mine.law_all.tw11061263923128422616 : True := trivial
theorem Mine.law_all.tw14225962978905420208 : True := trivial
theorem Mine.law_all.tw3296963836593520940 : True := trivial
theorem Mine.law_all.tw10332199025257759670 : True := trivial
theorem Mine.law_all.tw10842723371336156597 : True := trivial
theorem Mine.law_all.tw13801121007944782333 : True := trivial
theorem Mine.law_all.tw12281828514994423027 : True := trivial
theorem Mine.law_all.tw1766896147755282778 : True := trivial
theorem Mine.law_all.tw569701484050765398 : True := trivial
theorem Mine.law_all.tw5355107437934412706 : True := trivial
theorem Mine.law_all.tw232006020691507172 : True := trivial
theorem Mine.law_all.tw7881162431508693036 : True := trivial
theorem Mine.law_all.tw16844301800673861149 : True := trivial
theorem Mine.law_all.tw11977895914950762854 : True := trivial
theorem Mine.law_all.tw17162081525036864674 : True := trivial
theorem Mine.law_all.tw5881413082840422312 : True := trivial
theorem Mine.law_all.tw17613353281601113540 : True := trivial
theorem Mine.law_all.tw8100261704194928128 : True := trivial
theorem Mine.law_all.tw12332833768631797781 : True := trivial
theorem Mine.law_all.tw4221142147964649119 : True := trivial
theorem Mine.law_all.tw3903515962272563663 : True := trivial
theorem Mine.law_all.tw15111771918000721386 : True := trivial
theorem Mine.law_all.tw5465242347971369183 : True := trivial
theorem Mine.law_all.tw5099097261256123588 : True := trivial
theorem Mine.law_all.tw121348372011856147 : True := trivial
theorem Mine.law_all.tw1376570501437681816 : True := trivial
theorem Mine.law_all.tw7574916185476446870 : True := trivial
theorem Mine.law_all.tw6422183658796698897 : True := trivial
theorem Mine.law_all.tw10517906790627618544 : True := trivial
theorem Mine.law_all.tw14264949915988352486 : True := trivial
theorem Mine.law_all.tw9065303865073120601 : True := trivial
theorem Mine.law_all.tw4638716497167235156 : True := trivial
theorem Mine.law_all.tw2560851641824476598 : True := trivial
theorem Mine.law_all.tw9906353361400467681 : True := trivial
theorem Mine.law_all.tw1126804568260048138 : True := trivial
theorem Mine.law_all.tw5123302808915844946 : True := trivial
theorem Mine.law_all.tw15102585243479572927 : True := trivial
theorem Mine.law_all.tw1819660966834464121 : True := trivial
theorem Mine.law_all.tw12460376630410299887 : True := trivial
theorem Mine.law_all.tw13760851721862378156 : True := trivial
theorem Mine.law_all.tw5810238935025566227 : True := trivial
theorem Mine.law_all.tw2289857599661718217 : True := trivial
theorem Mine.law_all.tw6550320685308687620 : True := trivial
theorem Mine.law_all.tw12613626564643572922 : True := trivial
theorem Mine.law_all.tw1213014688269875124 : True := trivial
theorem Mine.law_all.tw9310598725500422130 : True := trivial
theorem Mine.law_all.tw14222145142556662505 : True := trivial
theorem Mine.law_all.tw6974504298890653878 : True := trivial
theorem Mine.law_all.tw1592464377872422232 : True := trivial
theorem Mine.law_all.tw1618355861504449712 : True := trivial
theorem Mine.law_all.tw3826946535189723318 : True := trivial
theorem Mine.law_all.tw15994752243992478524 : True := trivial
theorem Mine.law_all.tw7570389025846386837 : True := trivial
theorem Mine.law_all.tw17135547795266049317 : True := trivial
theorem Mine.law_all.tw11509529326707108785 : True := trivial
theorem Mine.law_all.tw401616629055616331 : True := trivial
theorem Mine.law_all.tw3813577191599259775 : True := trivial
theorem Mine.law_all.tw2032630373190490227 : True := trivial
theorem Mine.law_all.tw17550541601872772917 : True := trivial
theorem Mine.law_all.tw10754805694788938509 : True := trivial
theorem Mine.law_all.tw941666048300869634 : True := trivial
theorem Mine.law_all.tw2546207491649054136 : True := trivial
theorem Mine.law_all.tw2924670171094740670 : True := trivial
theorem Mine.law_all.tw5542367601281971411 : True := trivial
theorem Mine.law_all.tw7780568949283567224 : True := trivial
theorem Mine.law_all.tw541292884143145059 : True := trivial
theorem Mine.law_all.tw2406078263742745528 : True := trivial
theorem Mine.law_all.tw2795527421740472226 : True := trivial
theorem Mine.law_all.tw15844257298622311405 : True := trivial
theorem Mine.law_all.tw17749092094045793073 : True := trivial
theorem Mine.law_all.tw15586044915557591662 : True := trivial
theorem Mine.law_all.tw10082115955702963577 : True := trivial
theorem Mine.law_all.tw15854292548045388264 : True := trivial
theorem Mine.law_all.tw15387212284789558141 : True := trivial
theorem Mine.law_all.tw11516134287502957769 : True := trivial
theorem Mine.law_all.tw9504067815950663498 : True := trivial
theorem Mine.law_all.tw3012268511640468390 : True := trivial
theorem Mine.law_all.tw8814184745475322185 : True := trivial
theorem Mine.law_all.tw12878576852180475762 : True := trivial
theorem Mine.law_all.tw9421408513443329588 : True := trivial
theorem Mine.law_all.tw17248258474559860081 : True := trivial
theorem Mine.law_all.tw4073406199993252850 : True := trivial
theorem Mine.law_all.tw4322978343721434318 : True := trivial
theorem Mine.law_all.tw17333561848662834254 : True := trivial
theorem Mine.law_all.tw5133684288058214382 : True := trivial
theorem Mine.law_all.tw10041133594965264650 : True := trivial
theorem Mine.law_all.tw8712052157986787115 : True := trivial
theorem Mine.law_all.tw15917809590553049049 : True := trivial
theorem Mine.law_all.tw1244168298268136379 : True := trivial
theorem Mine.law_all.tw2234524100257708063 : True := trivial
theorem Mine.law_all.tw3007528111707432530 : True := trivial
theorem Mine.law_all.tw6738363049555094938 : True := trivial
theorem Mine.law_all.tw3757609718814977371 : True := trivial
theorem Mine.law_all.tw16258484221863406547 : True := trivial
theorem Mine.law_all.tw298556003828902562 : True := trivial
theorem Mine.law_all.tw9247069513710026938 : True := trivial
theorem Mine.law_all.tw1536466687738809822 : True := trivial
theorem Mine.law_all.tw3116810793124868424 : True := trivial
theorem Mine.law_all.tw8864850031346182118 : True := trivial
theorem Mine.law_all.tw17962646048161934237 : True := trivial
theorem Mine.law_all.tw16903987867393959857 : True := trivial
theorem Mine.law_all.tw1988555749612562791 : True := trivial
theorem Mine.law_all.tw8631452304911163145 : True := trivial
theorem Mine.law_all.tw8192627400900402444 : True := trivial
theorem Mine.law_all.tw6394399434190074597 : True := trivial
theorem Mine.law_all.tw8665318985690784266 : True := trivial
theorem Mine.law_all.tw14692936392394494320 : True := trivial
theorem Mine.law_all.tw15041844750066439977 : True := trivial
theorem Mine.law_all.tw5606647511850069095 : True := trivial
theorem Mine.law_all.tw1745867294719425553 : True := trivial
theorem Mine.law_all.tw15026446780328764363 : True := trivial
theorem Mine.law_all.tw13008198028515782221 : True := trivial
theorem Mine.law_all.tw13023151741414912232 : True := trivial
theorem Mine.law_all.tw14766775574214876319 : True := trivial
theorem Mine.law_all.tw9519570101095330979 : True := trivial
theorem Mine.law_all.tw8182643449472363497 : True := trivial
theorem Mine.law_all.tw2899457639284417968 : True := trivial
theorem Mine.law_all.tw9126654936404069527 : True := trivial
theorem Mine.law_all.tw308099982120028020 : True := trivial
theorem Mine.law_all.tw254210294449290986 : True := trivial
theorem Mine.law_all.tw753871570185349790 : True := trivial
theorem Mine.law_all.tw16819984471793681257 : True := trivial
theorem Mine.law_all.tw88744338008619462 : True := trivial
theorem Mine.law_all.tw16108003277724382137 : True := trivial
theorem Mine.law_all.tw2921730017392566355 : True := trivial
theorem Mine.law_all.tw10297145265793509435 : True := trivial
theorem Mine.law_all.tw14285781888347874446 : True := trivial
theorem Mine.law_all.tw1115970785884932992 : True := trivial
theorem Mine.law_all.tw7506031421445054254 : True := trivial
theorem Mine.law_all.tw185478952616494882 : True := trivial
theorem Mine.law_all.tw7517537711377488852 : True := trivial
theorem Mine.law_all.tw4493041973297072924 : True := trivial
theorem Mine.law_all.tw16378840673372724951 : True := trivial
theorem Mine.law_all.tw5457708884785321538 : True := trivial
theorem Mine.law_all.tw2662628459423469990 : True := trivial
theorem Mine.law_all.tw9005674034113058390 : True := trivial
theorem Mine.law_all.tw5126693611934764887 : True := trivial
theorem Mine.law_all.tw1908834790331025158 : True := trivial
theorem Mine.law_all.tw3275827474247852994 : True := trivial
theorem Mine.law_all.tw14512922981909422826 : True := trivial
theorem Mine.law_all.tw5105902913525381356 : True := trivial
theorem Mine.law_all.tw13093667027869941186 : True := trivial
theorem Mine.law_all.tw8373480759210339737 : True := trivial
theorem Mine.law_all.tw14929244992755822200 : True := trivial
theorem Mine.law_all.tw42735402098718572 : True := trivial
theorem Mine.law_all.tw50990029914848857 : True := trivial
theorem Mine.law_all.tw1134505771618074870 : True := trivial
theorem Mine.law_all.tw8408013158107128451 : True := trivial
theorem Mine.law_all.tw14690459059760270787 : True := trivial
theorem Mine.law_all.tw14599607153788883995 : True := trivial
theorem Mine.law_all.tw6471123649784635168 : True := trivial
theorem Mine.law_all.tw7089003446540823613 : True := trivial
theorem Mine.law_all.tw16280616582512762277 : True := trivial
theorem Mine.law_all.tw17025013958437641781 : True := trivial
theorem Mine.law_all.tw11072852086419898238 : True := trivial
theorem Mine.law_all.tw10589317585424288234 : True := trivial
theorem Mine.law_all.tw699081443379234643 : True := trivial
theorem Mine.law_all.tw13846950719819077829 : True := trivial
theorem Mine.law_all.tw6667596460715735799 : True := trivial
theorem Mine.law_all.tw17699220586243776058 : True := trivial
theorem Mine.law_all.tw5429858767254799258 : True := trivial
theorem Mine.law_all.tw7424173207631694637 : True := trivial
theorem Mine.law_all.tw17535888986555872392 : True := trivial
theorem Mine.law_all.tw11017029117903748048 : True := trivial
theorem Mine.law_all.tw18425384942027050804 : True := trivial
theorem Mine.law_all.tw12466342130767247577 : True := trivial
theorem Mine.law_all.tw4767241430983704032 : True := trivial
theorem Mine.law_all.tw9626924371936766941 : True := trivial
theorem Mine.law_all.tw17008558775933394028 : True := trivial
theorem Mine.law_all.tw1347740606709914761 : True := trivial
theorem Mine.law_all.tw13838683757722122955 : True := trivial
theorem Mine.law_all.tw15061830248806686431 : True := trivial
theorem Mine.law_all.tw5769454105433524467 : True := trivial
theorem Mine.law_all.tw4813512349449720863 : True := trivial
theorem Mine.law_all.tw6529279197570483795 : True := trivial
theorem Mine.law_all.tw9225959068197669698 : True := trivial
theorem Mine.law_all.tw9706086234395682267 : True := trivial
theorem Mine.law_all.tw10808177503072308079 : True := trivial
theorem Mine.law_all.tw9015332790510971594 : True := trivial
theorem Mine.law_all.tw4799799285233713263 : True := trivial
theorem Mine.law_all.tw4513022563276176288 : True := trivial
theorem Mine.law_all.tw12056103759676145562 : True := trivial
theorem Mine.law_all.tw6940715142576804456 : True := trivial
theorem Mine.law_all.tw11331813773473021967 : True := trivial
theorem Mine.law_all.tw1458131495679319933 : True := trivial
theorem Mine.law_all.tw11755048821886595345 : True := trivial
theorem Mine.law_all.tw10632998686855480601 : True := trivial
theorem Mine.law_all.tw13140779808272988157 : True := trivial
theorem Mine.law_all.tw5483578599265696199 : True := trivial
theorem Mine.law_all.tw15222793665863523046 : True := trivial
theorem Mine.law_all.tw5467091673537627360 : True := trivial
theorem Mine.law_all.tw16011759601916289475 : True := trivial
theorem Mine.law_all.tw18084503921448002766 : True := trivial
theorem Mine.law_all.tw1125080383469598763 : True := trivial
theorem Mine.law_all.tw6628267780710048319 : True := trivial
theorem Mine.law_all.tw7343335850631077457 : True := trivial
theorem Mine.law_all.tw10250544082008050651 : True := trivial
theorem Mine.law_all.tw623384496221371744 : True := trivial
theorem Mine.law_all.tw11276032279946435343 : True := trivial
theorem Mine.law_all.tw17139090271463625037 : True := trivial
theorem Mine.law_all.tw15404506543987917969 : True := trivial
theorem Mine.law_all.tw7219402698325937587 : True := trivial
theorem Mine.law_all.tw17628540532235563227 : True := trivial
theorem Mine.law_all.tw13528875618702146035 : True := trivial
theorem Mine.law_all.tw12509682125398910234 : True := trivial
theorem Mine.law_all.tw10427663710399940043 : True := trivial
theorem Mine.law_all.tw868222490149932729 : True := trivial
theorem Mine.law_all.tw3813564530132189172 : True := trivial
theorem Mine.law_all.tw4299841220277086336 : True := trivial
theorem Mine.law_all.tw7601383465899748548 : True := trivial
theorem Mine.law_all.tw3278616100580146713 : True := trivial
theorem Mine.law_all.tw14165149365823648315 : True := trivial
theorem Mine.law_all.tw10620959191045113335 : True := trivial
theorem Mine.law_all.tw10277864918451100114 : True := trivial
theorem Mine.law_all.tw12588457292089711807 : True := trivial
theorem Mine.law_all.tw5077807667812295140 : True := trivial
theorem Mine.law_all.tw3663503265976199116 : True := trivial
theorem Mine.law_all.tw2924756278709178009 : True := trivial
theorem Mine.law_all.tw13185898863257932480 : True := trivial
theorem Mine.law_all.tw5881403375008658740 : True := trivial
theorem Mine.law_all.tw15427931746332374070 : True := trivial
theorem Mine.law_all.tw17783994495123558372 : True := trivial
theorem Mine.law_all.tw3936332338030081361 : True := trivial
theorem Mine.law_all.tw11570621344050687362 : True := trivial
theorem Mine.law_all.tw5925129876391146066 : True := trivial
theorem Mine.law_all.tw7497220510776412333 : True := trivial
theorem Mine.law_all.tw7893887008874934858 : True := trivial
theorem Mine.law_all.tw147287198433707135 : True := trivial
theorem Mine.law_all.tw7664980124186717229 : True := trivial
theorem Mine.law_all.tw2906490581532596320 : True := trivial
theorem Mine.law_all.tw3416886346130291467 : True := trivial
theorem Mine.law_all.tw4520348996882111033 : True := trivial
theorem Mine.law_all.tw8351115422591919128 : True := trivial
theorem Mine.law_all.tw7697204384454675280 : True := trivial
theorem Mine.law_all.tw17657424406159520245 : True := trivial
theorem Mine.law_all.tw16724615851476500005 : True := trivial
theorem Mine.law_all.tw6275667225862918451 : True := trivial
theorem Mine.law_all.tw8406315387685492880 : True := trivial
theorem Mine.law_all.tw9496831969247301946 : True := trivial
theorem Mine.law_all.tw12104823046187114806 : True := trivial
theorem Mine.law_all.tw5719042974799534917 : True := trivial
theorem Mine.law_all.tw6645749129768185620 : True := trivial
theorem Mine.law_all.tw9447880567076979900 : True := trivial
theorem Mine.law_all.tw5923626274025043023 : True := trivial
theorem Mine.law_all.tw5332743953270975010 : True := trivial
theorem Mine.law_all.tw7902074397041296349 : True := trivial
theorem Mine.law_all.tw16554060013575348944 : True := trivial
theorem Mine.law_all.tw8552878003761168958 : True := trivial
theorem Mine.law_all.tw1343695993253210297 : True := trivial
theorem Mine.law_all.tw9726562403335934281 : True := trivial
theorem Mine.law_all.tw7791761455036148250 : True := trivial
theorem Mine.law_all.tw14745461692227509293 : True := trivial
theorem Mine.law_all.tw6372170185144319752 : True := trivial
theorem Mine.law_all.tw1526100267518658005 : True := trivial
theorem Mine.law_all.tw7028125823600010858 : True := trivial
theorem Mine.law_all.tw3692716606047857953 : True := trivial
theorem Mine.law_all.tw2425498562415444253 : True := trivial
theorem Mine.law_all.tw97606015624290612 : True := trivial
theorem Mine.law_all.tw7647884552941119451 : True := trivial
theorem Mine.law_all.tw12437776262134278062 : True := trivial
theorem Mine.law_all.tw15680072974341577534 : True := trivial
theorem Mine.law_all.tw2617532451759129828 : True := trivial
theorem Mine.law_all.tw4767623398743609812 : True := trivial
theorem Mine.law_all.tw14396964315094823396 : True := trivial
theorem Mine.law_all.tw7765527865837770668 : True := trivial
theorem Mine.law_all.tw15955839384417658414 : True := trivial
theorem Mine.law_all.tw1479220743327157826 : True := trivial
theorem Mine.law_all.tw3560663033078476128 : True := trivial
theorem Mine.law_all.tw13312783184378385674 : True := trivial
theorem Mine.law_all.tw13814730616935933626 : True := trivial
theorem Mine.law_all.tw2018976290973465159 : True := trivial
theorem Mine.law_all.tw13050402135260733356 : True := trivial
theorem Mine.law_all.tw4629605032302363013 : True := trivial
theorem Mine.law_all.tw2897607846274201091 : True := trivial
theorem Mine.law_all.tw4116516876634802910 : True := trivial
theorem Mine.law_all.tw13786776866538912107 : True := trivial
theorem Mine.law_all.tw5143838461203301668 : True := trivial
theorem Mine.law_all.tw14484216793023953687 : True := trivial
theorem Mine.law_all.tw15816446151563789378 : True := trivial
theorem Mine.law_all.tw15991014356718627131 : True := trivial
theorem Mine.law_all.tw11378994670534948722 : True := trivial
theorem Mine.law_all.tw16903961797545972891 : True := trivial
theorem Mine.law_all.tw15693939393655280204 : True := trivial
theorem Mine.law_all.tw15978949696629488146 : True := trivial
theorem Mine.law_all.tw2310117848358827485 : True := trivial
theorem Mine.law_all.tw11945523544114663292 : True := trivial
theorem Mine.law_all.tw14783403437535847111 : True := trivial
theorem Mine.law_all.tw11195006048519719982 : True := trivial
theorem Mine.law_all.tw5306588570621787507 : True := trivial
theorem Mine.law_all.tw7897600568026276390 : True := trivial
theorem Mine.law_all.tw6829346939798277260 : True := trivial
theorem Mine.law_all.tw8378616637936851624 : True := trivial
theorem Mine.law_all.tw1264670296981799925 : True := trivial
theorem Mine.law_all.tw8921295990715661176 : True := trivial
theorem Mine.law_all.tw1909231634321623422 : True := trivial
theorem Mine.law_all.tw8515956640902208893 : True := trivial
theorem Mine.law_all.tw4875587917594351017 : True := trivial
theorem Mine.law_all.tw11655911931479345256 : True := trivial
theorem Mine.law_all.tw6513319782983348548 : True := trivial
theorem Mine.law_all.tw4048687063676348890 : True := trivial
theorem Mine.law_all.tw14829923604676511662 : True := trivial
theorem Mine.law_all.tw1899502164790749458 : True := trivial
theorem Mine.law_all.tw12162759631566370067 : True := trivial
theorem Mine.law_all.tw8093475581411736961 : True := trivial
theorem Mine.law_all.tw6514298221923599796 : True := trivial
theorem Mine.law_all.tw11126621595802289062 : True := trivial
theorem Mine.law_all.tw1200807466883419909 : True := trivial
theorem Mine.law_all.tw1702886262042523489 : True := trivial
theorem Mine.law_all.tw14200917436561629008 : True := trivial
theorem Mine.law_all.tw4298414287522497693 : True := trivial
theorem Mine.law_all.tw13284267574609153846 : True := trivial
theorem Mine.law_all.tw16081171039842257919 : True := trivial
theorem Mine.law_all.tw11821130883310013321 : True := trivial
theorem Mine.law_all.tw4468289917989545160 : True := trivial
theorem Mine.law_all.tw4800166454244708440 : True := trivial
theorem Mine.law_all.tw2337115943774737595 : True := trivial
theorem Mine.law_all.tw10425333190776739551 : True := trivial
theorem Mine.law_all.tw8496572883052770167 : True := trivial
theorem Mine.law_all.tw5947366203799548357 : True := trivial
theorem Mine.law_all.tw4706784108104460177 : True := trivial
theorem Mine.law_all.tw5285307726481897559 : True := trivial
theorem Mine.law_all.tw1733342002462095466 : True := trivial
theorem Mine.law_all.tw3243097391343231957 : True := trivial
theorem Mine.law_all.tw6068437695709350847 : True := trivial
theorem Mine.law_all.tw8689406086219333336 : True := trivial
theorem Mine.law_all.tw6038085552947697086 : True := trivial
theorem Mine.law_all.tw15146687380694534961 : True := trivial
theorem Mine.law_all.tw7690104695833144301 : True := trivial
theorem Mine.law_all.tw13323004776771469176 : True := trivial
theorem Mine.law_all.tw10092212651508181671 : True := trivial
theorem Mine.law_all.tw2413856156487422069 : True := trivial
theorem Mine.law_all.tw7320585726020715318 : True := trivial
theorem Mine.law_all.tw9729604732972894722 : True := trivial
theorem Mine.law_all.tw8925359147337055447 : True := trivial
theorem Mine.law_all.tw14573240092562081179 : True := trivial
theorem Mine.law_all.tw6231318655119160662 : True := trivial
theorem Mine.law_all.tw12415205634060267573 : True := trivial
theorem Mine.law_all.tw11344874559957333639 : True := trivial
theorem Mine.law_all.tw9885059535474818502 : True := trivial
theorem Mine.law_all.tw17769878892396552597 : True := trivial
theorem Mine.law_all.tw9682089725965795925 : True := trivial
theorem Mine.law_all.tw15516733807979383809 : True := trivial
theorem Mine.law_all.tw6592884879708733306 : True := trivial
theorem Mine.law_all.tw9837858002760397563 : True := trivial
theorem Mine.law_all.tw17615603864403458811 : True := trivial
theorem Mine.law_all.tw12078552371085240558 : True := trivial
theorem Mine.law_all.tw6775264209203825292 : True := trivial
theorem Mine.law_all.tw2818472761355251851 : True := trivial
theorem Mine.law_all.tw9055577570390366099 : True := trivial
theorem Mine.law_all.tw11161673737740280770 : True := trivial
theorem Mine.law_all.tw10699485395619107383 : True := trivial
theorem Mine.law_all.tw12095277606438711637 : True := trivial
theorem Mine.law_all.tw9193932539253619566 : True := trivial
theorem Mine.law_all.tw13880960847138548369 : True := trivial
theorem Mine.law_all.tw14384918623772240547 : True := trivial
theorem Mine.law_all.tw857312800663944748 : True := trivial
theorem Mine.law_all.tw9929707098585528879 : True := trivial
theorem Mine.law_all.tw17956888979338296214 : True := trivial
theorem Mine.law_all.tw3015541545424464467 : True := trivial
theorem Mine.law_all.tw15053150841094675366 : True := trivial
theorem Mine.law_all.tw8287017651184956003 : True := trivial
theorem Mine.law_all.tw17459176674885784516 : True := trivial
theorem Mine.law_all.tw13061075394575644761 : True := trivial
theorem Mine.law_all.tw6022211634629375331 : True := trivial
theorem Mine.law_all.tw12685006382546950688 : True := trivial
theorem Mine.law_all.tw11237757471492391802 : True := trivial
theorem Mine.law_all.tw1541181133342956825 : True := trivial
theorem Mine.law_all.tw3825936540422273863 : True := trivial
theorem Mine.law_all.tw10801504523797058725 : True := trivial
theorem Mine.law_all.tw17167370007966241821 : True := trivial
theorem Mine.law_all.tw12733668576097638289 : True := trivial
theorem Mine.law_all.tw11086646823923730572 : True := trivial
theorem Mine.law_all.tw14817745034569102223 : True := trivial
theorem Mine.law_all.tw6723525195617269812 : True := trivial
theorem Mine.law_all.tw9987792911408698340 : True := trivial
theorem Mine.law_all.tw1619606534716276043 : True := trivial
theorem Mine.law_all.tw13126924672156596446 : True := trivial
theorem Mine.law_all.tw18223944042725728250 : True := trivial
theorem Mine.law_all.tw12733029705023595350 : True := trivial
theorem Mine.law_all.tw10780945830723714241 : True := trivial
theorem Mine.law_all.tw4289236661132030044 : True := trivial
theorem Mine.law_all.tw9337859482809679654 : True := trivial
theorem Mine.law_all.tw5199301434253951998 : True := trivial
theorem Mine.law_all.tw1682832674239571567 : True := trivial
theorem Mine.law_all.tw14971921406432897392 : True := trivial
theorem Mine.law_all.tw4545471796157021838 : True := trivial
theorem Mine.law_all.tw17671693468899418834 : True := trivial
theorem Mine.law_all.tw17955762135096478813 : True := trivial
theorem Mine.law_all.tw2862211712955723747 : True := trivial
theorem Mine.law_all.tw4771868648470891126 : True := trivial
theorem Mine.law_all.tw12443848507722431881 : True := trivial
theorem Mine.law_all.tw6132233064332118879 : True := trivial
theorem Mine.law_all.tw1373718396076105583 : True := trivial
theorem Mine.law_all.tw4105255371170773908 : True := trivial
theorem Mine.law_all.tw7166755544651728111 : True := trivial
theorem Mine.law_all.tw697804852917623427 : True := trivial
theorem Mine.law_all.tw11379858719792009985 : True := trivial
theorem Mine.law_all.tw6649969067901403340 : True := trivial
theorem Mine.law_all.tw450456051597042649 : True := trivial
theorem Mine.law_all.tw11968179528029030403 : True := trivial
theorem Mine.law_all.tw2432424846941410789 : True := trivial
theorem Mine.law_all.tw13977805788617109767 : True := trivial
theorem Mine.law_all.tw5961023722609971472 : True := trivial
theorem Mine.law_all.tw5386138778478946084 : True := trivial
theorem Mine.law_all.tw11973853004191696713 : True := trivial
theorem Mine.law_all.tw4787805881238422163 : True := trivial
theorem Mine.law_all.tw16364907183938773818 : True := trivial
theorem Mine.law_all.tw1006284481315042348 : True := trivial
theorem Mine.law_all.tw12719020962863150717 : True := trivial
theorem Mine.law_all.tw4316066407692741691 : True := trivial
theorem Mine.law_all.tw7385059913978287034 : True := trivial
theorem Mine.law_all.tw7837713855860009970 : True := trivial
theorem Mine.law_all.tw17606432771363783360 : True := trivial
theorem Mine.law_all.tw18098063318637971162 : True := trivial
theorem Mine.law_all.tw7206139752427571534 : True := trivial
theorem Mine.law_all.tw14404595031650566798 : True := trivial
theorem Mine.law_all.tw1166129813771130549 : True := trivial
theorem Mine.law_all.tw9895718714931393807 : True := trivial
theorem Mine.law_all.tw4106251560972939919 : True := trivial
theorem Mine.law_all.tw4054552316874386740 : True := trivial
theorem Mine.law_all.tw3806819470392062991 : True := trivial
theorem Mine.law_all.tw16084122824873582314 : True := trivial
theorem Mine.law_all.tw18243188635623463072 : True := trivial
theorem Mine.law_all.tw8352638903468824440 : True := trivial
theorem Mine.law_all.tw9098079959301702225 : True := trivial
theorem Mine.law_all.tw6236118766085468272 : True := trivial
theorem Mine.law_all.tw16669387040374730769 : True := trivial
theorem Mine.law_all.tw9350206980387211188 : True := trivial
theorem Mine.law_all.tw2754305514957794308 : True := trivial
theorem Mine.law_all.tw12055539081176029090 : True := trivial
theorem Mine.law_all.tw17894447663895493757 : True := trivial
theorem Mine.law_all.tw11566998951525393313 : True := trivial
theorem Mine.law_all.tw801417409540640141 : True := trivial
theorem Mine.law_all.tw17818739092667572935 : True := trivial
theorem Mine.law_all.tw8068670141169891791 : True := trivial
theorem Mine.law_all.tw14483480384061991028 : True := trivial
theorem Mine.law_all.tw3342747189937667127 : True := trivial
theorem Mine.law_all.tw1646534875598493178 : True := trivial
theorem Mine.law_all.tw6237928856598503754 : True := trivial
theorem Mine.law_all.tw13171468961803394345 : True := trivial
theorem Mine.law_all.tw9715068110327944835 : True := trivial
theorem Mine.law_all.tw17879881856010532143 : True := trivial
theorem Mine.law_all.tw14591837725140855343 : True := trivial
theorem Mine.law_all.tw16101399557488211435 : True := trivial
theorem Mine.law_all.tw14112813277465929817 : True := trivial
theorem Mine.law_all.tw17091725206767289263 : True := trivial
theorem Mine.law_all.tw10152195772459584916 : True := trivial
theorem Mine.law_all.tw11283148420750326516 : True := trivial
theorem Mine.law_all.tw7762748990098453861 : True := trivial
theorem Mine.law_all.tw9484003277438265565 : True := trivial
theorem Mine.law_all.tw15336482529451251379 : True := trivial
theorem Mine.law_all.tw7831887952337321200 : True := trivial
theorem Mine.law_all.tw14774489703277084257 : True := trivial
theorem Mine.law_all.tw18049563021733404900 : True := trivial
theorem Mine.law_all.tw2619257411496593575 : True := trivial
theorem Mine.law_all.tw8559622642134532576 : True := trivial
theorem Mine.law_all.tw10447141982152834051 : True := trivial
theorem Mine.law_all.tw10492806786580578284 : True := trivial
theorem Mine.law_all.tw8587321083128229445 : True := trivial
theorem Mine.law_all.tw14752512131158284028 : True := trivial
theorem Mine.law_all.tw11981917482434212799 : True := trivial
theorem Mine.law_all.tw14011421268284267096 : True := trivial
theorem Mine.law_all.tw5058365699104195747 : True := trivial
theorem Mine.law_all.tw11844059635380801397 : True := trivial
theorem Mine.law_all.tw14058198244844264512 : True := trivial
theorem Mine.law_all.tw18438550808169337630 : True := trivial
theorem Mine.law_all.tw12491990524712166927 : True := trivial
theorem Mine.law_all.tw4663659113027530946 : True := trivial
theorem Mine.law_all.tw9101883533985367949 : True := trivial
theorem Mine.law_all.tw8990330740181145737 : True := trivial
theorem Mine.law_all.tw14976291558557332888 : True := trivial
theorem Mine.law_all.tw6064550380648306667 : True := trivial
theorem Mine.law_all.tw17073913150402608559 : True := trivial
theorem Mine.law_all.tw1536540366311737286 : True := trivial
theorem Mine.law_all.tw8175941863582059467 : True := trivial
theorem Mine.law_all.tw324088458086427686 : True := trivial
theorem Mine.law_all.tw10075033275381536440 : True := trivial
theorem Mine.law_all.tw10548317783181927485 : True := trivial
theorem Mine.law_all.tw10474069288783402820 : True := trivial
theorem Mine.law_all.tw2586092790497031182 : True := trivial
theorem Mine.law_all.tw7379131392961922385 : True := trivial
theorem Mine.law_all.tw10344729229328920165 : True := trivial
theorem Mine.law_all.tw14578468027487938174 : True := trivial
theorem Mine.law_all.tw13662883176790347504 : True := trivial
theorem Mine.law_all.tw390498358708893106 : True := trivial
theorem Mine.law_all.tw15362320644881486680 : True := trivial
theorem Mine.law_all.tw18074040619987095483 : True := trivial
theorem Mine.law_all.tw17313086474550658941 : True := trivial
theorem Mine.law_all.tw18031673381082608066 : True := trivial
theorem Mine.law_all.tw3426539022656043222 : True := trivial
theorem Mine.law_all.tw10437830444076844960 : True := trivial
theorem Mine.law_all.tw14086168745368120678 : True := trivial
theorem Mine.law_all.tw5196125583654719661 : True := trivial
theorem Mine.law_all.tw14991419344657449139 : True := trivial
theorem Mine.law_all.tw2791512771193701167 : True := trivial
theorem Mine.law_all.tw18272266722473543086 : True := trivial
theorem Mine.law_all.tw10132980813947130738 : True := trivial
theorem Mine.law_all.tw9281404008301498739 : True := trivial
theorem Mine.law_all.tw2152068858271055291 : True := trivial
theorem Mine.law_all.tw6311965134907485826 : True := trivial
theorem Mine.law_all.tw5914833246583547866 : True := trivial
theorem Mine.law_all.tw9800942999675429824 : True := trivial
theorem Mine.law_all.tw1748755634552202416 : True := trivial
theorem Mine.law_all.tw2231501168552399465 : True := trivial
theorem Mine.law_all.tw3728958221131766131 : True := trivial
theorem Mine.law_all.tw7382394883274062982 : True := trivial
theorem Mine.law_all.tw4783601065168354762 : True := trivial
theorem Mine.law_all.tw11986533732874898875 : True := trivial
theorem Mine.law_all.tw3933338468746785916 : True := trivial
theorem Mine.law_all.tw11739812003963863410 : True := trivial
theorem Mine.law_all.tw9758465039191818689 : True := trivial
theorem Mine.law_all.tw18235319390762920864 : True := trivial
theorem Mine.law_all.tw13699687274142533169 : True := trivial
theorem Mine.law_all.tw11887072702994114029 : True := trivial
theorem Mine.law_all.tw5368372463894450783 : True := trivial
theorem Mine.law_all.tw18236519589282089527 : True := trivial
theorem Mine.law_all.tw4665142225715192508 : True := trivial
theorem Mine.law_all.tw12012145143388645040 : True := trivial
theorem Mine.law_all.tw3764594079211352018 : True := trivial
theorem Mine.law_all.tw12537412015971586914 : True := trivial
theorem Mine.law_all.tw9405689241106513495 : True := trivial
theorem Mine.law_all.tw11615710364362942683 : True := trivial
theorem Mine.law_all.tw1756717570143565084 : True := trivial
theorem Mine.law_all.tw5453859960540951435 : True := trivial
theorem Mine.law_all.tw12644882131140162811 : True := trivial
theorem Mine.law_all.tw14600590696809855391 : True := trivial
theorem Mine.law_all.tw5409939720034131757 : True := trivial
theorem Mine.law_all.tw644193453371022997 : True := trivial
theorem Mine.law_all.tw5391715999942285979 : True := trivial
theorem Mine.law_all.tw10464263001826078911 : True := trivial
theorem Mine.law_all.tw10112902700007934811 : True := trivial
theorem Mine.law_all.tw1851005829296705102 : True := trivial
theorem Mine.law_all.tw12681778448758301329 : True := trivial
theorem Mine.law_all.tw16314742590276871135 : True := trivial
theorem Mine.law_all.tw10969439180591476309 : True := trivial
theorem Mine.law_all.tw16436836394604217106 : True := trivial
theorem Mine.law_all.tw12240263347232697027 : True := trivial
theorem Mine.law_all.tw7804374761869212844 : True := trivial
theorem Mine.law_all.tw4411415793883364592 : True := trivial
theorem Mine.law_all.tw456885184704423047 : True := trivial
theorem Mine.law_all.tw13211181752546427078 : True := trivial
theorem Mine.law_all.tw3284748957273996875 : True := trivial
theorem Mine.law_all.tw13680609273526107374 : True := trivial
theorem Mine.law_all.tw14236084546645660719 : True := trivial
theorem Mine.law_all.tw17547520148116901912 : True := trivial
theorem Mine.law_all.tw10806039510188334631 : True := trivial
theorem Mine.law_all.tw15671280296326744443 : True := trivial
theorem Mine.law_all.tw17215917983952657280 : True := trivial
theorem Mine.law_all.tw62385180349169020 : True := trivial
theorem Mine.law_all.tw13491740491915545503 : True := trivial
theorem Mine.law_all.tw2631628752055362666 : True := trivial
theorem Mine.law_all.tw9372167265927652766 : True := trivial
theorem Mine.law_all.tw16371739260329825113 : True := trivial
theorem Mine.law_all.tw17669519193255119196 : True := trivial
theorem Mine.law_all.tw15447014339297491418 : True := trivial
theorem Mine.law_all.tw8399003694265948756 : True := trivial
theorem Mine.law_all.tw12703074045546933829 : True := trivial
theorem Mine.law_all.tw1668538180921589862 : True := trivial
theorem Mine.law_all.tw15546441815245403988 : True := trivial
theorem Mine.law_all.tw17060384074182460019 : True := trivial
theorem Mine.law_all.tw11194228370837134999 : True := trivial
theorem Mine.law_all.tw13531483092564520072 : True := trivial
theorem Mine.law_all.tw1542534431135467645 : True := trivial
theorem Mine.law_all.tw8305597428437692698 : True := trivial
theorem Mine.law_all.tw4881685112826633117 : True := trivial
theorem Mine.law_all.tw9112288994732759537 : True := trivial
theorem Mine.law_all.tw14662071744767229590 : True := trivial
theorem Mine.law_all.tw9385311596571155968 : True := trivial
theorem Mine.law_all.tw2224743311408289904 : True := trivial
theorem Mine.law_all.tw6564360385875737041 : True := trivial
theorem Mine.law_all.tw9058530902327166115 : True := trivial
theorem Mine.law_all.tw10024686837709580625 : True := trivial
theorem Mine.law_all.tw2225694422541459837 : True := trivial
theorem Mine.law_all.tw14598207043298650064 : True := trivial
theorem Mine.law_all.tw8765806042451288875 : True := trivial
theorem Mine.law_all.tw1487786111206980130 : True := trivial
theorem Mine.law_all.tw16745809935298821572 : True := trivial
theorem Mine.law_all.tw13104927337049522412 : True := trivial
theorem Mine.law_all.tw17737764639412749679 : True := trivial
theorem Mine.law_all.tw18180275025638004960 : True := trivial
theorem Mine.law_all.tw10470740866990187283 : True := trivial
theorem Mine.law_all.tw6755600590273672426 : True := trivial
theorem Mine.law_all.tw1294855798985786495 : True := trivial
theorem Mine.law_all.tw6157751959391354502 : True := trivial
theorem Mine.law_all.tw16768936007509957499 : True := trivial
theorem Mine.law_all.tw8518996810716976194 : True := trivial
theorem Mine.law_all.tw11085147635474315433 : True := trivial
theorem Mine.law_all.tw9815803367523510294 : True := trivial
theorem Mine.law_all.tw7757561431791933054 : True := trivial
theorem Mine.law_all.tw9437977712622912741 : True := trivial
theorem Mine.law_all.tw1696500276726984248 : True := trivial
theorem Mine.law_all.tw16118133896454242471 : True := trivial
theorem Mine.law_all.tw16371911816118071455 : True := trivial
theorem Mine.law_all.tw14966067393961270158 : True := trivial
theorem Mine.law_all.tw12610587468927266379 : True := trivial
theorem Mine.law_all.tw7290121776363987770 : True := trivial
theorem Mine.law_all.tw7227878493039989945 : True := trivial
theorem Mine.law_all.tw587449342414447963 : True := trivial
theorem Mine.law_all.tw7271498159299846290 : True := trivial
theorem Mine.law_all.tw17035568942905013000 : True := trivial
theorem Mine.law_all.tw7680916366514936674 : True := trivial
theorem Mine.law_all.tw10529780158634616513 : True := trivial
theorem Mine.law_all.tw12057113539981475253 : True := trivial
theorem Mine.law_all.tw11833566044642688545 : True := trivial
theorem Mine.law_all.tw15746133877532336623 : True := trivial
theorem Mine.law_all.tw16892600953724058444 : True := trivial
theorem Mine.law_all.tw782427809645370415 : True := trivial
theorem Mine.law_all.tw6237155331754066022 : True := trivial
theorem Mine.law_all.tw16741880675132489432 : True := trivial
theorem Mine.law_all.tw11911069920064303837 : True := trivial
theorem Mine.law_all.tw2113808404335124552 : True := trivial
theorem Mine.law_all.tw15076095784800757957 : True := trivial
theorem Mine.law_all.tw86908756275839534 : True := trivial
theorem Mine.law_all.tw7416931893851735294 : True := trivial
theorem Mine.law_all.tw5177077447299576375 : True := trivial
theorem Mine.law_all.tw12309555987426629805 : True := trivial
theorem Mine.law_all.tw13881306047427017735 : True := trivial
theorem Mine.law_all.tw3665484915411088083 : True := trivial
theorem Mine.law_all.tw5823586147374532853 : True := trivial
theorem Mine.law_all.tw10362440531411215723 : True := trivial
theorem Mine.law_all.tw10603289331690730176 : True := trivial
theorem Mine.law_all.tw13928278647878734309 : True := trivial
theorem Mine.law_all.tw4728599345574348774 : True := trivial
theorem Mine.law_all.tw2253686190644405003 : True := trivial
theorem Mine.law_all.tw2577563808611626836 : True := trivial
theorem Mine.law_all.tw391340077780216222 : True := trivial
theorem Mine.law_all.tw9019875401820227665 : True := trivial
theorem Mine.law_all.tw12507762813244862470 : True := trivial
theorem Mine.law_all.tw866766908457270551 : True := trivial
theorem Mine.law_all.tw3743276652137241584 : True := trivial
theorem Mine.law_all.tw4848548716629997264 : True := trivial
theorem Mine.law_all.tw2872085493576920064 : True := trivial
theorem Mine.law_all.tw13095150338055272814 : True := trivial
theorem Mine.law_all.tw16434993861110634532 : True := trivial
theorem Mine.law_all.tw11499723639459963570 : True := trivial
theorem Mine.law_all.tw16962350897556312332 : True := trivial
theorem Mine.law_all.tw17208948692691691804 : True := trivial
theorem Mine.law_all.tw12230927248747617965 : True := trivial
theorem Mine.law_all.tw11806459468589365706 : True := trivial
theorem Mine.law_all.tw2746415857694854958 : True := trivial
theorem Mine.law_all.tw10754601566845926611 : True := trivial
theorem Mine.law_all.tw18069371669798473238 : True := trivial
theorem Mine.law_all.tw7358765618238378763 : True := trivial
theorem Mine.law_all.tw7119508329715715523 : True := trivial
theorem Mine.law_all.tw1325725505073848231 : True := trivial
theorem Mine.law_all.tw4011130107991819787 : True := trivial
theorem Mine.law_all.tw7241301525396740710 : True := trivial
theorem Mine.law_all.tw6458656187981348758 : True := trivial
theorem Mine.law_all.tw12742291788480804056 : True := trivial
theorem Mine.law_all.tw12303014915382014946 : True := trivial
theorem Mine.law_all.tw11953936395949465439 : True := trivial
theorem Mine.law_all.tw6456847839567275990 : True := trivial
theorem Mine.law_all.tw7035262430463298820 : True := trivial
theorem Mine.law_all.tw12051850038722144316 : True := trivial
theorem Mine.law_all.tw289511000256421866 : True := trivial
theorem Mine.law_all.tw13697446050514408011 : True := trivial
theorem Mine.law_all.tw8259473591719373357 : True := trivial
theorem Mine.law_all.tw796818876455020728 : True := trivial
theorem Mine.law_all.tw36579443221350052 : True := trivial
theorem Mine.law_all.tw13515836412680247291 : True := trivial
theorem Mine.law_all.tw16838179679014408406 : True := trivial
theorem Mine.law_all.tw2465578340897827915 : True := trivial
theorem Mine.law_all.tw14169471996915453906 : True := trivial
theorem Mine.law_all.tw15988576510117618290 : True := trivial
theorem Mine.law_all.tw3263060017730090603 : True := trivial
theorem Mine.law_all.tw4373205857372294398 : True := trivial
theorem Mine.law_all.tw6039264787345505811 : True := trivial
theorem Mine.law_all.tw1195523087049108795 : True := trivial
theorem Mine.law_all.tw7090190583926799169 : True := trivial
theorem Mine.law_all.tw670697118951388126 : True := trivial
theorem Mine.law_all.tw4338267340049963969 : True := trivial
theorem Mine.law_all.tw6397261156675118401 : True := trivial
theorem Mine.law_all.tw6281480290983300618 : True := trivial
theorem Mine.law_all.tw571745101423254476 : True := trivial
theorem Mine.law_all.tw13763162616901922433 : True := trivial
theorem Mine.law_all.tw8961255980978662838 : True := trivial
theorem Mine.law_all.tw8053974599713079812 : True := trivial
theorem Mine.law_all.tw18299426437183154797 : True := trivial
theorem Mine.law_all.tw7911531064090814180 : True := trivial
theorem Mine.law_all.tw1556948465960636121 : True := trivial
theorem Mine.law_all.tw937055499877386264 : True := trivial
theorem Mine.law_all.tw16759230557537464115 : True := trivial
theorem Mine.law_all.tw866564066945910344 : True := trivial
theorem Mine.law_all.tw17198419215744740974 : True := trivial
theorem Mine.law_all.tw9117050903738871367 : True := trivial
theorem Mine.law_all.tw4142882797520435500 : True := trivial
theorem Mine.law_all.tw2506844670610910573 : True := trivial
theorem Mine.law_all.tw15982079766070313398 : True := trivial
theorem Mine.law_all.tw8347406222979154285 : True := trivial
theorem Mine.law_all.tw5315506903917589002 : True := trivial
theorem Mine.law_all.tw9462809283271141762 : True := trivial
theorem Mine.law_all.tw9056655903479792236 : True := trivial
theorem Mine.law_all.tw15894988515832802272 : True := trivial
theorem Mine.law_all.tw8937883705780218553 : True := trivial
theorem Mine.law_all.tw5515175385397997255 : True := trivial
theorem Mine.law_all.tw13573102627690589801 : True := trivial
theorem Mine.law_all.tw1703305540711997886 : True := trivial
theorem Mine.law_all.tw2763200530551224835 : True := trivial
theorem Mine.law_all.tw3602784471345507114 : True := trivial
theorem Mine.law_all.tw2885707341163702077 : True := trivial
theorem Mine.law_all.tw1408806660432250928 : True := trivial
theorem Mine.law_all.tw2981204530259232531 : True := trivial
theorem Mine.law_all.tw7213851623774115239 : True := trivial
theorem Mine.law_all.tw3877723044392924569 : True := trivial
theorem Mine.law_all.tw15740732772335265587 : True := trivial
theorem Mine.law_all.tw16413752452701970063 : True := trivial
theorem Mine.law_all.tw1189080093081105346 : True := trivial
theorem Mine.law_all.tw9847930118418132646 : True := trivial
theorem Mine.law_all.tw3498384184797677056 : True := trivial
theorem Mine.law_all.tw1842971241104362299 : True := trivial
theorem Mine.law_all.tw16693345006668779598 : True := trivial
theorem Mine.law_all.tw11407212017213923087 : True := trivial
theorem Mine.law_all.tw5945882358115643694 : True := trivial
theorem Mine.law_all.tw14816879207175617225 : True := trivial
theorem Mine.law_all.tw18313445508184284481 : True := trivial
theorem Mine.law_all.tw8059288581424842436 : True := trivial
theorem Mine.law_all.tw11779399842900871346 : True := trivial
theorem Mine.law_all.tw11628095284720837169 : True := trivial
theorem Mine.law_all.tw2202764407437257358 : True := trivial
theorem Mine.law_all.tw3573340081450625464 : True := trivial
theorem Mine.law_all.tw11575233253633470811 : True := trivial
theorem Mine.law_all.tw4449761216389261190 : True := trivial
theorem Mine.law_all.tw17118986888630616858 : True := trivial
theorem Mine.law_all.tw1684386024576819110 : True := trivial
theorem Mine.law_all.tw6160080969221487542 : True := trivial
theorem Mine.law_all.tw17213219829386642084 : True := trivial
theorem Mine.law_all.tw14100515932553792916 : True := trivial
theorem Mine.law_all.tw7296818474457393607 : True := trivial
theorem Mine.law_all.tw9389932311233280350 : True := trivial
theorem Mine.law_all.tw11370059905445811129 : True := trivial
theorem Mine.law_all.tw9697324461614764831 : True := trivial
theorem Mine.law_all.tw14680051335654784553 : True := trivial
theorem Mine.law_all.tw12415261661798453589 : True := trivial
theorem Mine.law_all.tw4438399736822516121 : True := trivial
theorem Mine.law_all.tw11780552165158174459 : True := trivial
theorem Mine.law_all.tw12880530043633816451 : True := trivial
theorem Mine.law_all.tw6352045179492744985 : True := trivial
theorem Mine.law_all.tw2472384424244870459 : True := trivial
theorem Mine.law_all.tw13760747126890918739 : True := trivial
theorem Mine.law_all.tw4550207073109245370 : True := trivial
theorem Mine.law_all.tw16385951753907185183 : True := trivial
theorem Mine.law_all.tw4810359999024667066 : True := trivial
theorem Mine.law_all.tw7539104779076750295 : True := trivial
theorem Mine.law_all.tw8718603462263403589 : True := trivial
theorem Mine.law_all.tw15275527861284700546 : True := trivial
theorem Mine.law_all.tw43822206185756307 : True := trivial
theorem Mine.law_all.tw12942184054927948311 : True := trivial
theorem Mine.law_all.tw14007897523862953668 : True := trivial
theorem Mine.law_all.tw15743857825236497588 : True := trivial
theorem Mine.law_all.tw17115713224241774592 : True := trivial
theorem Mine.law_all.tw6378717016339408911 : True := trivial
theorem Mine.law_all.tw18019929789766518222 : True := trivial
theorem Mine.law_all.tw11541454027444291867 : True := trivial
theorem Mine.law_all.tw3777453917453456667 : True := trivial
theorem Mine.law_all.tw16850067431916028951 : True := trivial
theorem Mine.law_all.tw51366843150158886 : True := trivial
theorem Mine.law_all.tw6281336798887741830 : True := trivial
theorem Mine.law_all.tw15817853144674484978 : True := trivial
theorem Mine.law_all.tw7565920113569585601 : True := trivial
theorem Mine.law_all.tw1224010249265392569 : True := trivial
theorem Mine.law_all.tw15256493282736253867 : True := trivial
theorem Mine.law_all.tw540954306642092798 : True := trivial
theorem Mine.law_all.tw11819635365892184359 : True := trivial
theorem Mine.law_all.tw6801470937092483863 : True := trivial
theorem Mine.law_all.tw17516141867632195740 : True := trivial
theorem Mine.law_all.tw14435836088163181261 : True := trivial
theorem Mine.law_all.tw2174520888648116866 : True := trivial
theorem Mine.law_all.tw13509177966542993873 : True := trivial
theorem Mine.law_all.tw1115311737908471259 : True := trivial
theorem Mine.law_all.tw14232367337319313231 : True := trivial
theorem Mine.law_all.tw5962365601980372440 : True := trivial
theorem Mine.law_all.tw18198261566025488028 : True := trivial
theorem Mine.law_all.tw13367176642022358155 : True := trivial
theorem Mine.law_all.tw15753174923161979217 : True := trivial
theorem Mine.law_all.tw2726533656112109469 : True := trivial
theorem Mine.law_all.tw12623802867859471158 : True := trivial
theorem Mine.law_all.tw15696156366995490489 : True := trivial
theorem Mine.law_all.tw13794602993731048600 : True := trivial
theorem Mine.law_all.tw3358472159093845929 : True := trivial
theorem Mine.law_all.tw4357118453508938140 : True := trivial
theorem Mine.law_all.tw17188035321649709614 : True := trivial
theorem Mine.law_all.tw13456863692723816207 : True := trivial
theorem Mine.law_all.tw17267511707214054054 : True := trivial
theorem Mine.law_all.tw865885312489698057 : True := trivial
theorem Mine.law_all.tw1172793060472301760 : True := trivial
theorem Mine.law_all.tw18369321035705266579 : True := trivial
theorem Mine.law_all.tw1961576592547977382 : True := trivial
theorem Mine.law_all.tw7702720457695366031 : True := trivial
theorem Mine.law_all.tw10225259964504848740 : True := trivial
theorem Mine.law_all.tw5564237334548157303 : True := trivial
theorem Mine.law_all.tw10300875812035996732 : True := trivial
theorem Mine.law_all.tw1178986762315405437 : True := trivial
theorem Mine.law_all.tw10221997122443297352 : True := trivial
theorem Mine.law_all.tw12760510453615215998 : True := trivial
theorem Mine.law_all.tw2431311244206744821 : True := trivial
theorem Mine.law_all.tw13523418062013228558 : True := trivial
theorem Mine.law_all.tw4625211604613518413 : True := trivial
theorem Mine.law_all.tw1407716047416726741 : True := trivial
theorem Mine.law_all.tw10565121375587587042 : True := trivial
theorem Mine.law_all.tw14174517074612190596 : True := trivial
theorem Mine.law_all.tw16768144245005235482 : True := trivial
theorem Mine.law_all.tw1682840521854849442 : True := trivial
theorem Mine.law_all.tw6463489072841894807 : True := trivial
theorem Mine.law_all.tw3325111520719290175 : True := trivial
theorem Mine.law_all.tw10575808222751662728 : True := trivial
theorem Mine.law_all.tw11681217401251675389 : True := trivial
theorem Mine.law_all.tw8810399088073249494 : True := trivial
theorem Mine.law_all.tw13685136416335799533 : True := trivial
theorem Mine.law_all.tw18383949787495555429 : True := trivial
theorem Mine.law_all.tw17386547048453696860 : True := trivial
theorem Mine.law_all.tw3050570416659367537 : True := trivial
theorem Mine.law_all.tw7701153426736177974 : True := trivial
theorem Mine.law_all.tw5403677533733193846 : True := trivial
theorem Mine.law_all.tw906757414912418612 : True := trivial
theorem Mine.law_all.tw12836747770095448064 : True := trivial
theorem Mine.law_all.tw8618336906785351942 : True := trivial
theorem Mine.law_all.tw581509044858899661 : True := trivial
theorem Mine.law_all.tw8755279341700096616 : True := trivial
theorem Mine.law_all.tw4959470712613272833 : True := trivial
theorem Mine.law_all.tw13066556902979482641 : True := trivial
theorem Mine.law_all.tw7163010275520755743 : True := trivial
theorem Mine.law_all.tw1288270072008814257 : True := trivial
theorem Mine.law_all.tw5480159453071252461 : True := trivial
theorem Mine.law_all.tw357486453476387696 : True := trivial
theorem Mine.law_all.tw10972643930856128791 : True := trivial
theorem Mine.law_all.tw35717200308832025 : True := trivial
theorem Mine.law_all.tw6851157634355297669 : True := trivial
theorem Mine.law_all.tw3740185271146487245 : True := trivial
theorem Mine.law_all.tw12534027776361810370 : True := trivial
theorem Mine.law_all.tw2965987889837986908 : True := trivial
theorem Mine.law_all.tw17311543511305506410 : True := trivial
theorem Mine.law_all.tw12795914074852961918 : True := trivial
theorem Mine.law_all.tw9429942708143374130 : True := trivial
theorem Mine.law_all.tw17969530034244639028 : True := trivial
theorem Mine.law_all.tw8295653638501232855 : True := trivial
theorem Mine.law_all.tw8564888430778796407 : True := trivial
theorem Mine.law_all.tw15796676433106474108 : True := trivial
theorem Mine.law_all.tw14115007137499183204 : True := trivial
theorem Mine.law_all.tw13984151417817525133 : True := trivial
theorem Mine.law_all.tw2747623398821866450 : True := trivial
theorem Mine.law_all.tw13707208606822203510 : True := trivial
theorem Mine.law_all.tw7564772252293548769 : True := trivial
theorem Mine.law_all.tw17821587149742552891 : True := trivial
theorem Mine.law_all.tw16829598718399601788 : True := trivial
theorem Mine.law_all.tw18115598367602769801 : True := trivial
theorem Mine.law_all.tw15353343082906663676 : True := trivial
theorem Mine.law_all.tw2238069962009214901 : True := trivial
theorem Mine.law_all.tw7914111920488281241 : True := trivial
theorem Mine.law_all.tw15175368528575537740 : True := trivial
theorem Mine.law_all.tw1584610834578658081 : True := trivial
theorem Mine.law_all.tw17824699565076465075 : True := trivial
theorem Mine.law_all.tw13955646682027860996 : True := trivial
theorem Mine.law_all.tw11527891035238042781 : True := trivial
theorem Mine.law_all.tw14998430357298625318 : True := trivial
theorem Mine.law_all.tw4312221214654303245 : True := trivial
theorem Mine.law_all.tw12852575843583276402 : True := trivial
theorem Mine.law_all.tw2558263876058320549 : True := trivial
theorem Mine.law_all.tw9793429609119093069 : True := trivial
theorem Mine.law_all.tw2891144412967124082 : True := trivial
theorem Mine.law_all.tw11008839944985332601 : True := trivial
theorem Mine.law_all.tw9000883745109673501 : True := trivial
theorem Mine.law_all.tw10486281728991561039 : True := trivial
theorem Mine.law_all.tw15313853814466723436 : True := trivial
theorem Mine.law_all.tw11666791612657790110 : True := trivial
theorem Mine.law_all.tw2812987420286402142 : True := trivial
theorem Mine.law_all.tw7518268271031788722 : True := trivial
theorem Mine.law_all.tw17939729280251354216 : True := trivial
theorem Mine.law_all.tw4198061620403395136 : True := trivial
theorem Mine.law_all.tw4270512862863035808 : True := trivial
theorem Mine.law_all.tw7032130934624792205 : True := trivial
theorem Mine.law_all.tw11266150474529332087 : True := trivial
theorem Mine.law_all.tw8366713072648010664 : True := trivial
theorem Mine.law_all.tw7810743181515291045 : True := trivial
theorem Mine.law_all.tw16371026202757247076 : True := trivial
theorem Mine.law_all.tw14306978333734412998 : True := trivial
theorem Mine.law_all.tw374766727668220859 : True := trivial
theorem Mine.law_all.tw5495784557159034327 : True := trivial
theorem Mine.law_all.tw17381011072343130446 : True := trivial
theorem Mine.law_all.tw18084819778460367582 : True := trivial
theorem Mine.law_all.tw3135528900888663784 : True := trivial
theorem Mine.law_all.tw10562567905742353873 : True := trivial
theorem Mine.law_all.tw8803404886157929299 : True := trivial
theorem Mine.law_all.tw10427768884268684552 : True := trivial
theorem Mine.law_all.tw14437242743615798716 : True := trivial
theorem Mine.law_all.tw14300270879109701445 : True := trivial
theorem Mine.law_all.tw13581327203777572028 : True := trivial
theorem Mine.law_all.tw11156016171303442314 : True := trivial
theorem Mine.law_all.tw13989974958611873218 : True := trivial
theorem Mine.law_all.tw12620598019160589179 : True := trivial
theorem Mine.law_all.tw645013614473375241 : True := trivial
theorem Mine.law_all.tw8836462397961589918 : True := trivial
theorem Mine.law_all.tw15955814874369106537 : True := trivial
theorem Mine.law_all.tw11587524997120335971 : True := trivial
theorem Mine.law_all.tw6630503555795351075 : True := trivial
theorem Mine.law_all.tw5407152262560994199 : True := trivial
theorem Mine.law_all.tw1038885855152599283 : True := trivial
theorem Mine.law_all.tw8858638111541304496 : True := trivial
theorem Mine.law_all.tw7757124845224084579 : True := trivial
theorem Mine.law_all.tw18437768301239656569 : True := trivial
theorem Mine.law_all.tw14142368258859480080 : True := trivial
theorem Mine.law_all.tw7297819598837024618 : True := trivial
theorem Mine.law_all.tw3896677248486430384 : True := trivial
theorem Mine.law_all.tw9741297799410488584 : True := trivial
theorem Mine.law_all.tw10143031176177733864 : True := trivial
theorem Mine.law_all.tw711021382710547372 : True := trivial
theorem Mine.law_all.tw15877617104253876215 : True := trivial
theorem Mine.law_all.tw17831633481768180021 : True := trivial
theorem Mine.law_all.tw11464865452401227656 : True := trivial
theorem Mine.law_all.tw9730515428898209248 : True := trivial
theorem Mine.law_all.tw11421492830896010466 : True := trivial
theorem Mine.law_all.tw15106878835201008470 : True := trivial
theorem Mine.law_all.tw4218093189155465367 : True := trivial
theorem Mine.law_all.tw16994514146051193508 : True := trivial
theorem Mine.law_all.tw15775596325662777338 : True := trivial
theorem Mine.law_all.tw11373430062764667247 : True := trivial
theorem Mine.law_all.tw3049941219963327188 : True := trivial
theorem Mine.law_all.tw16625629747186990877 : True := trivial
theorem Mine.law_all.tw6818535541638068524 : True := trivial
theorem Mine.law_all.tw17964100949573051663 : True := trivial
theorem Mine.law_all.tw2919649542600381882 : True := trivial
theorem Mine.law_all.tw15090710645362110852 : True := trivial
theorem Mine.law_all.tw5234447947421495549 : True := trivial
theorem Mine.law_all.tw7817977360859998167 : True := trivial
theorem Mine.law_all.tw265244927588178289 : True := trivial
theorem Mine.law_all.tw10586219493256288171 : True := trivial
theorem Mine.law_all.tw7554247435833788720 : True := trivial
theorem Mine.law_all.tw10423822332596533971 : True := trivial
theorem Mine.law_all.tw6946091854452207773 : True := trivial
theorem Mine.law_all.tw11090485264053204359 : True := trivial
theorem Mine.law_all.tw3669051535078491162 : True := trivial
theorem Mine.law_all.tw18135408350670230780 : True := trivial
theorem Mine.law_all.tw10938250296463516022 : True := trivial
theorem Mine.law_all.tw17461023701970706658 : True := trivial
theorem Mine.law_all.tw196974008228917347 : True := trivial
theorem Mine.law_all.tw14831206303057345538 : True := trivial
theorem Mine.law_all.tw7247926347573934118 : True := trivial
theorem Mine.law_all.tw7224549994232214638 : True := trivial
theorem Mine.law_all.tw15121837243256198043 : True := trivial
theorem Mine.law_all.tw8410422384732016249 : True := trivial
theorem Mine.law_all.tw7188791813448049371 : True := trivial
theorem Mine.law_all.tw10416063536870402424 : True := trivial
theorem Mine.law_all.tw10075493852517998716 : True := trivial
theorem Mine.law_all.tw2982699944288580842 : True := trivial
theorem Mine.law_all.tw10635536241202982537 : True := trivial
theorem Mine.law_all.tw4607750278909125284 : True := trivial
theorem Mine.law_all.tw2135314059674174450 : True := trivial
theorem Mine.law_all.tw9992796612143662886 : True := trivial
theorem Mine.law_all.tw13446384164382990572 : True := trivial
theorem Mine.law_all.tw8820261365336496098 : True := trivial
theorem Mine.law_all.tw14636622166468137105 : True := trivial
theorem Mine.law_all.tw14969216848811132704 : True := trivial
theorem Mine.law_all.tw4469509312023483314 : True := trivial
theorem Mine.law_all.tw3241033389818516246 : True := trivial
theorem Mine.law_all.tw10240734782212473332 : True := trivial
theorem Mine.law_all.tw10247251320241082336 : True := trivial
theorem Mine.law_all.tw17970757394946253910 : True := trivial
theorem Mine.law_all.tw17811419955406721850 : True := trivial
theorem Mine.law_all.tw3261250254779219729 : True := trivial
theorem Mine.law_all.tw15161120417280960535 : True := trivial
theorem Mine.law_all.tw1216541509919387563 : True := trivial
theorem Mine.law_all.tw3781572232802922534 : True := trivial
theorem Mine.law_all.tw2525653633432605389 : True := trivial
theorem Mine.law_all.tw17994726235332625280 : True := trivial
theorem Mine.law_all.tw4640835974096237147 : True := trivial
theorem Mine.law_all.tw5415215016402467412 : True := trivial
theorem Mine.law_all.tw11572952145666636933 : True := trivial
theorem Mine.law_all.tw15421611283047414692 : True := trivial
theorem Mine.law_all.tw7982698399765186325 : True := trivial
theorem Mine.law_all.tw5007728179111998763 : True := trivial
theorem Mine.law_all.tw743412211500013303 : True := trivial
theorem Mine.law_all.tw17138794587834298416 : True := trivial
theorem Mine.law_all.tw5113565536986230370 : True := trivial
theorem Mine.law_all.tw16611412123790042429 : True := trivial
theorem Mine.law_all.tw14375837930296264146 : True := trivial
theorem Mine.law_all.tw9339400996390342628 : True := trivial
theorem Mine.law_all.tw6250623550151289363 : True := trivial
theorem Mine.law_all.tw7979492120457570264 : True := trivial
theorem Mine.law_all.tw14448975606232184337 : True := trivial
theorem Mine.law_all.tw14038700456328504219 : True := trivial
theorem Mine.law_all.tw8998419837362456327 : True := trivial
theorem Mine.law_all.tw1469086916834449242 : True := trivial
theorem Mine.law_all.tw2394756045033803996 : True := trivial
theorem Mine.law_all.tw7292434958787203408 : True := trivial
theorem Mine.law_all.tw17870765948467921550 : True := trivial
theorem Mine.law_all.tw4971525033006987312 : True := trivial
theorem Mine.law_all.tw17413550076941298003 : True := trivial
theorem Mine.law_all.tw11316630271383740818 : True := trivial
theorem Mine.law_all.tw7470513268851451213 : True := trivial
theorem Mine.law_all.tw8636992181308737738 : True := trivial
theorem Mine.law_all.tw9285932881680792518 : True := trivial
theorem Mine.law_all.tw12485393647227945402 : True := trivial
theorem Mine.law_all.tw3694351898582876921 : True := trivial
theorem Mine.law_all.tw11402688761197947802 : True := trivial
theorem Mine.law_all.tw3053660256275331401 : True := trivial
theorem Mine.law_all.tw12426150187355495272 : True := trivial
theorem Mine.law_all.tw34981568851968291 : True := trivial
theorem Mine.law_all.tw1485154726033263068 : True := trivial
theorem Mine.law_all.tw3907663706730131783 : True := trivial
theorem Mine.law_all.tw4676387156939204929 : True := trivial
theorem Mine.law_all.tw1770321641891747666 : True := trivial
theorem Mine.law_all.tw1941046448484579991 : True := trivial
theorem Mine.law_all.tw498969334165971575 : True := trivial
theorem Mine.law_all.tw16802804513485658213 : True := trivial
theorem Mine.law_all.tw7244142420057014546 : True := trivial
theorem Mine.law_all.tw5331902312086228352 : True := trivial
theorem Mine.law_all.tw1809502294756820286 : True := trivial
theorem Mine.law_all.tw1678774688637317811 : True := trivial
theorem Mine.law_all.tw9881681013793774600 : True := trivial
theorem Mine.law_all.tw2154737406897626791 : True := trivial
theorem Mine.law_all.tw15845778499796225489 : True := trivial
theorem Mine.law_all.tw11836482064631991793 : True := trivial
theorem Mine.law_all.tw18041836178462933985 : True := trivial
theorem Mine.law_all.tw17585104241551753366 : True := trivial
theorem Mine.law_all.tw17491269327052831879 : True := trivial
theorem Mine.law_all.tw7658680413803366864 : True := trivial
theorem Mine.law_all.tw5046676412343541489 : True := trivial
theorem Mine.law_all.tw17293483708993535449 : True := trivial
theorem Mine.law_all.tw15627020587669677704 : True := trivial
theorem Mine.law_all.tw17610193108198147946 : True := trivial
theorem Mine.law_all.tw16610364562264112213 : True := trivial
theorem Mine.law_all.tw1155645803786910667 : True := trivial
theorem Mine.law_all.tw17238692654854937651 : True := trivial
theorem Mine.law_all.tw17213418721671049187 : True := trivial
theorem Mine.law_all.tw18424452837839797475 : True := trivial
theorem Mine.law_all.tw8810683771702325575 : True := trivial
theorem Mine.law_all.tw14978941665995686438 : True := trivial
theorem Mine.law_all.tw12074057436302401830 : True := trivial
theorem Mine.law_all.tw6495852183210934563 : True := trivial
theorem Mine.law_all.tw17633126580248655646 : True := trivial
theorem Mine.law_all.tw18024192373445878068 : True := trivial
theorem Mine.law_all.tw4179209112946984403 : True := trivial
theorem Mine.law_all.tw14832577517017574144 : True := trivial
theorem Mine.law_all.tw18057137985718396609 : True := trivial
theorem Mine.law_all.tw11404586228399824523 : True := trivial
theorem Mine.law_all.tw5964670041877113058 : True := trivial
theorem Mine.law_all.tw11688695010476522603 : True := trivial
theorem Mine.law_all.tw5970844899898935343 : True := trivial
theorem Mine.law_all.tw17009404168889603793 : True := trivial
theorem Mine.law_all.tw12857768353395258856 : True := trivial
theorem Mine.law_all.tw1462358456018306731 : True := trivial
theorem Mine.law_all.tw5591302951066050737 : True := trivial
theorem Mine.law_all.tw5176073063277498486 : True := trivial
theorem Mine.law_all.tw4527195061187594670 : True := trivial
set_option Elab.async true in
theorem Mine.law_all : PySem.Challenge.rw_kq0019_01.Holds := by
  w_on
  o_law
  o_head (kHook Mine.hd.heap_1 [2, 3, 33, 35, 36, 38, 39, 40, 42, 43, 45, 46, 47, 49, 50, 52, 53, 54, 61, 62, 63, 64, 74, 76, 77, 79, 80, 81, 82, 83, 84, 85, 86, 89, 96, 97, 98, 101, 108, 109, 110, 113, 120, 121, 123, 124, 126, 127, 128, 130, 131, 133, 134, 135, 137, 138, 140, 141, 142, 144, 145, 147, 148, 149, 150, 152, 153, 155, 156, 157, 159, 160, 162, 163, 164, 166, 167, 169, 170, 171, 173, 174, 176, 177, 178, 180, 181, 183, 184, 185, 187, 188, 190, 191, 192, 194, 195, 197, 198, 199, 201, 202, 204, 205, 206, 208, 209, 211, 212, 213, 215, 216, 218, 219, 220, 222, 223, 225, 226, 227, 229, 230, 232, 233, 234, 236, 237, 239, 240, 241, 242, 244, 245, 247, 248, 249, 250, 252, 253, 255, 256, 257, 258, 260, 261, 263, 264, 265, 266, 268, 269, 271, 272, 273, 275, 276, 278, 279, 280, 282, 283, 285, 286, 287, 288, 290, 291, 293, 294, 295, 296, 298, 299, 301, 302, 303, 305, 306, 308, 309, 310, 312, 313, 315, 316, 317, 319, 320, 322, 323, 324, 326, 327, 329, 330, 331, 333, 334, 336, 337, 338, 339, 340, 343, 350, 351, 353, 354, 356, 357, 358, 360, 361, 363, 364, 365, 367, 368, 370, 371, 372, 374, 375, 377, 378, 379, 381, 382, 384, 385, 386, 388, 389, 391, 392, 393, 394, 396, 397, 399, 400, 401, 402, 404, 405, 407, 408, 409, 410, 412, 413, 415, 416, 417, 418, 420, 421, 423, 424, 425, 426, 428, 429, 431, 432, 433, 435, 436, 438, 439, 440, 442, 443, 445, 446, 447, 449, 450, 452, 453, 454, 456, 457, 459, 460, 461, 463, 464, 466, 467, 468, 470, 471, 473, 474, 475, 477, 478, 480, 481, 482, 484, 485, 487, 488, 489, 491, 492, 494, 495, 496, 498, 499, 501, 502, 503, 505, 506, 508, 509, 510, 511, 513, 514, 516, 517, 518, 519, 521, 522, 524, 525, 526, 527, 529, 530, 532, 533, 534, 535, 537, 538, 540, 541, 542, 543, 545, 546, 548, 549, 550, 552, 553, 555, 556, 557, 559, 560, 562, 563, 564, 566, 567, 569, 570, 571, 573, 574, 576, 577, 578, 580, 581, 583, 584, 585, 586, 587, 590, 592, 593, 595, 596, 597, 599, 600, 602, 603, 604, 606, 607, 609, 610, 611, 613, 614, 616, 617, 618, 620, 621, 623, 624, 625, 627, 628, 630, 631, 639, 640, 642, 643, 645, 646, 647, 649, 650, 652, 653, 654, 655, 657, 658, 660, 661, 662, 663, 665, 666, 668, 669, 670, 672, 673, 675, 676, 677, 679, 680, 682, 683, 684, 686, 687, 689, 690, 691, 693, 694, 696, 697, 698, 699, 701, 702, 704, 705, 706, 708, 709, 711, 712, 713, 715, 716, 718, 719, 720, 721, 722, 723, 724, 727, 729, 730, 732, 733, 734, 736, 737, 739, 740, 741, 744, 745, 746, 749, 750] (fun _ => by kernel_rfl))
  (case hw => w_witness2)
  (apply Mine.free; (case a => exact trivial); (case b => exact trivial); (case c => exact trivial); (case d => exact trivial); (case e => exact trivial); (case f => exact trivial); (case g => exact trivial); (case h => exact trivial); (case i => exact trivial); (case j => exact trivial); (case k => exact trivial); (case l => exact trivial); (case m => exact trivial); (case n => exact trivial); (case o => exact trivial); (case q => exact trivial); (case r => exact trivial); (case s => exact trivial); (case t => exact trivial); (case u => exact trivial); (case v => exact trivial); (case w => exact trivial); (case x => exact trivial); (case y => exact trivial); (case z => exact trivial); (case A => exact trivial); (case B => exact trivial); (case C => exact trivial); (case D => exact trivial); (case E => exact trivial); (case F => exact trivial); (case G => exact trivial); (case H => exact trivial); (case I => exact trivial); (case J => exact trivial); (case K => exact trivial); (case L => exact trivial); (case M => exact trivial); (case N => exact trivial); (case O => exact trivial); (case P => exact trivial); (case Q => exact trivial); (case R => exact trivial); (case S => exact trivial); (case T => exact trivial); (case U => exact trivial); (case V => exact trivial); (case W => exact trivial); (case X => exact trivial); (case Y => exact trivial); (case Z => exact trivial); (case e1 => exact trivial); (case e2 => exact trivial); (case e3 => exact trivial); (case e4 => exact trivial); (case e5 => exact trivial); (case e6 => exact trivial); (case e7 => exact trivial); (case e8 => exact trivial); (case e9 => exact trivial); (case e10 => exact trivial); (case k1 => exact trivial); (case k2 => exact trivial); (case k3 => exact trivial); (case k4 => exact trivial); (case k5 => exact trivial); (case k6 => exact trivial); (case k7 => exact trivial); (case k8 => exact trivial); (case k9 => exact trivial); (case k10 => exact trivial); (case k11 => exact trivial); (case k12 => exact trivial); (case k13 => exact trivial); (case k14 => exact trivial); (case k15 => exact trivial); (case h1 => exact trivial); (case h2 => exact trivial); (case h3 => exact trivial); (case h4 => exact trivial); (case h5 => exact trivial); (case h6 => exact trivial); (case hr => exact trivial); (case hp => exact trivial); (case hi => exact trivial); (case hv => exact trivial); (case hz => exact trivial); (case sz => exact trivial); (case sub => exact trivial); (case hQ => exact trivial); (case hE => exact trivial); (case hP => exact trivial); (case hC => exact trivial); (case hx => exact trivial); (case ka => exact trivial); (case kb => exact trivial))
  k_go0
  all_goals try k_fold
  refine Mine.post_genF ?_
  intro Qv hQv
  (repeat' (first | (k_unfold; (try dsimp only)) | ((fail_if_success (with_reducible show wpAny _ _ (execs (Stmt.If _ _ _ _ :: _) _) _ _ _)); walk1)))
  rename World => w
  rename Fr _ _ _ _ => F1
  rename News _ _ _ _ => N1
  rename IntsAre _ _ => hi1
  refine Mine.lw5c_if F1 N1 ?h1 ?h2
  case h1 =>
    k_steps
    · refine' Mine.lw5c_mid ?F ?N ?i ?e1 ?e2 ?e3 ?sub ?cell ?ne
      case F => assumption
      case N => assumption
      case e3 => exact if_pos rfl
      case sub => exact List.Mem.head _
      case cell => repeat (first | exact List.Mem.head _ | refine List.Mem.tail _ ?_)
      case ne => k_ne
      case i => exact .cons 0 _ .nil
      case e1 => simp
      case e2 => simp
    · refine' Mine.lw5c_mid ?F ?N ?i ?e1 ?e2 ?e3 ?sub ?cell ?ne
      case F => assumption
      case N => assumption
      case e3 => exact if_pos rfl
      case sub => exact List.Mem.tail _ (List.Mem.head _)
      case cell => repeat (first | exact List.Mem.head _ | refine List.Mem.tail _ ?_)
      case ne => k_ne
      case i => exact hi1
      case e1 => exact of_decide_eq_false (by assumption)
      case e2 => simp only [List.length_map]; omega
  case h2 =>
    clear F1 N1 hi1
    intro h2 tk2 D vs nums nn m2 F2 N2 hi2 hne2 hlen2 hcD
    cases hi2 with
    | nil => exact absurd rfl hne2
    | cons n0 t0 hi2 =>
    rename List Value => vs0
    rename List Int => ns0
    (apply Mine.free; (case a => exact trivial); (case b => exact trivial); (case c => exact trivial); (case d => exact trivial); (case e => exact trivial); (case f => exact trivial); (case g => exact trivial); (case h => exact trivial); (case i => exact trivial); (case j => exact trivial); (case k => exact trivial); (case l => exact trivial); (case m => exact trivial); (case n => exact trivial); (case o => exact trivial); (case q => exact trivial); (case r => exact trivial); (case s => exact trivial); (case t => exact trivial); (case u => exact trivial); (case v => exact trivial); (case w => exact trivial); (case x => exact trivial); (case y => exact trivial); (case z => exact trivial); (case A => exact trivial); (case B => exact trivial); (case C => exact trivial); (case D => exact trivial); (case E => exact trivial); (case F => exact trivial); (case G => exact trivial); (case H => exact trivial); (case I => exact trivial); (case J => exact trivial); (case K => exact trivial); (case L => exact trivial); (case M => exact trivial); (case N => exact trivial); (case O => exact trivial); (case P => exact trivial); (case Q => exact trivial); (case R => exact trivial); (case S => exact trivial); (case T => exact trivial); (case U => exact trivial); (case V => exact trivial); (case W => exact trivial); (case X => exact trivial); (case Y => exact trivial); (case Z => exact trivial); (case e1 => exact trivial); (case e2 => exact trivial); (case e3 => exact trivial); (case e4 => exact trivial); (case e5 => exact trivial); (case e6 => exact trivial); (case e7 => exact trivial); (case e8 => exact trivial); (case e9 => exact trivial); (case e10 => exact trivial); (case k1 => exact trivial); (case k2 => exact trivial); (case k3 => exact trivial); (case k4 => exact trivial); (case k5 => exact trivial); (case k6 => exact trivial); (case k7 => exact trivial); (case k8 => exact trivial); (case k9 => exact trivial); (case k10 => exact trivial); (case k11 => exact trivial); (case k12 => exact trivial); (case k13 => exact trivial); (case k14 => exact trivial); (case k15 => exact trivial); (case h1 => exact trivial); (case h2 => exact trivial); (case h3 => exact trivial); (case h4 => exact trivial); (case h5 => exact trivial); (case h6 => exact trivial); (case hr => exact trivial); (case hp => exact trivial); (case hi => exact trivial); (case hv => exact trivial); (case hz => exact trivial); (case sz => exact trivial); (case sub => exact trivial); (case hQ => exact trivial); (case hE => exact trivial); (case hP => exact trivial); (case hC => exact trivial); (case hx => exact trivial); (case ka => exact trivial); (case kb => exact trivial))
    (repeat' (first | (k_unfold; (try dsimp only)) | ((fail_if_success (with_reducible show wpAny _ _ (eval (Expr.ListComp _ _ _ _) _) _ _ _)); walk1)))
    rename Fr _ _ _ _ => F3
    refine' Mine.lc_enum F3 (cl := _) ?c1 ?c2 ?c3 ?c4 ?c5 ?c6 ?c7 ?_ ?c8
    case c1 => with_unfolding_all rfl
    case c2 => decide
    case c3 => rfl
    case c4 => decide
    case c5 => rfl
    case c6 => rfl
    case c7 => decide
    case c8 => exact fun _ => rfl
    (repeat' (first | (k_unfold; (try dsimp only)) | ((fail_if_success (with_reducible show wpAny _ _ (call (Value.type "enumerate") _) _ _ _)); walk1)))
    refine' Mine.srcE ?hh ?F ?N ?ha ?hz ?turn ?fin
    case hh => rfl
    case F => k_asm
    case N => k_asm
    case ha => with_unfolding_all rfl
    case hz => rw [sizeLine_eq]; decide
    case turn =>
      intro i c t₁ u ys e it oI oC oi C D' m₂ h tk E' hi hc hC h1 h2 F' N' off ne
      have hi10 : (i : Int) < 10 := by
        have : (Str.ofString "|&;(>a=-$?").cps.size = 10 := rfl
        omega
      have hi0 : (0 : Int) ≤ (i : Int) := Int.natCast_nonneg i
      (repeat' (first | (k_unfold; (try dsimp only)) | walk1))
      all_goals (rename Fr _ _ _ _ => F9; rename News _ _ _ _ => N9)
      · exact PyProof.Rows.LCg.CompEnd.intro F9 N9 _ (fun p hp => hp) off trivial ⟨rfl, _, rfl⟩
      · exact PyProof.Rows.LCg.CompEnd.intro F9 N9 _ (fun p hp => hp) off trivial rfl
    case fin =>
      intro ys D1 h5 tk5 hY F5 N5 o5
      obtain ⟨cs, hY1, hY2, hY3⟩ := hY
      (repeat' (first | (k_unfold; (try dsimp only)) | ((fail_if_success (with_reducible show wpAny _ _ (call (Value.builtin "str.join") _) _ _ _)); walk1)))
      refine Mine.join_call N5 (.head _) hY1 (Nat.le_trans hY2 (by decide)) fun t6 k6 => ?_
      (repeat' (first | (k_unfold; (try dsimp only)) | ((fail_if_success (with_reducible show wpAny _ _ (call (Value.ref 733) _) _ _ _)); walk1)))
      rename News _ _ _ _ => N7
      replace N7 := fun p hp => N7 p (List.Mem.tail _ hp)
      refine' Mine.text1 (rest := [_]) ?k2 ?k1 ?k3 ?k4 ?k5 ?k6 (.cons _ _ hi2) ?k8 ?k7 ?_
      case k7 => exact N7
      case k8 => simpa using hlen2
      case k1 => k_asm
      case k2 => k_asm
      case k3 => k_asm
      case k4 => k_asm
      case k5 => k_room
      case k6 => k_units
      intro h8 tx t8 k8 F8 N8 htx htl
      (try clear N5 N7)
      (repeat' (first | (k_unfold; (try dsimp only)) | ((fail_if_success (with_reducible show wpAny _ _ (execs (Stmt.Assign [Expr.Name ("lex" : Str) _] _ _ :: _) _) _ _ _)); walk1)))
      rename Fr _ _ _ _ => F9
      rename News _ _ _ _ => N9
      obtain ⟨sp, hsp⟩ : ∃ z, (((n0 :: ns0).getD (Int.toNat 0) 0).fmod 2 == 1) = z := ⟨_, rfl⟩
      rw [hsp] at F9
      clear hsp
      have htl3 : tx.length ≤ 360 := by
        have : (((n0 :: ns0).getD (Int.toNat 0) 0).fdiv 2048 :: ns0).length ≤ 40 := by simpa using hlen2
        omega
      have hpl := Mine.pu1_len (cs := cs) hY2
      (try dsimp only)
      refine Mine.st_mid (fun m' l tk => ∃ lx t1 t2, Mine.CtP w.params (Mine.S tx) (Mine.pu1 cs) lx l ∧ Mine.Has m' [(Str.ofString "lex", .ref lx), (Str.ofString "text", .str (Mine.S tx) t1), (Str.ofString "runs", .str (Mine.S cs) t2), (Str.ofString "split", .bool sp)]) F9 ?g1 ?g2
      case g1 =>
        cases cs with
        | nil =>
          (repeat' (first | (k_unfold; (try dsimp only)) | ((fail_if_success (with_reducible show wpAny _ _ (call (Value.ref 722) _ _) _ _ _)); walk1)))
          refine' Mine.ctor1 (pu := Mine.pu1 []) (rest := []) ?k1 ?k2 ?k3 ?k4 ?k5 ?k6 ?a1 hpl.2 ?a2 ?a3 ?a4 (Mine.pu1_ascii hY3) (.inl ⟨rfl, rfl⟩) (fun p hp => nomatch hp) ?_
          case k1 => k_asm
          case k2 => k_asm
          case k3 => k_asm
          case k4 => k_asm
          case k5 => k_room
          case k6 => k_units
          case a1 => rw [Mine.s_len]; omega
          case a2 => exact Nat.le_trans hpl.1 (by decide)
          case a3 => exact Nat.le_trans hpl.1 (by decide)
          case a4 => rw [Array.length_toList]; exact Nat.le_trans hpl.1 (by decide)
          intro lx dx io iod pb fs pc h' kt T k19 ev t1 ts tl tt k F' hev o1 o2 o3 o4 o5 o6 _ _ _ _ _ N'
          (try clear F9 N9)
          k_steps
          rename Fr _ _ _ _ => F10
          rename News _ _ _ _ => N10
          exact Mine.sp_mk F10 N10 (fun p hp => hp) ⟨lx, _, _, ⟨dx, io, iod, pb, fs, pc, kt, T, k19, ev, t1, ts, tl, tt, hev, o1, o2, o3, o4, o5, o6, rfl⟩, Mine.has4 rfl rfl rfl rfl⟩
        | cons c0 cr =>
          (repeat' (first | (k_unfold; (try dsimp only)) | ((fail_if_success (with_reducible show wpAny _ _ (call (Value.ref 722) _ _) _ _ _)); walk1)))
          refine' Mine.ctor1 (pu := Mine.pu1 (c0 :: cr)) (rest := []) ?k1 ?k2 ?k3 ?k4 ?k5 ?k6 ?a1 hpl.2 ?a2 ?a3 ?a4 (Mine.pu1_ascii hY3) (.inr ⟨_, rfl⟩) (fun p hp => nomatch hp) ?_
          case k1 => k_asm
          case k2 => k_asm
          case k3 => k_asm
          case k4 => k_asm
          case k5 => k_room
          case k6 => k_units
          case a1 => rw [Mine.s_len]; omega
          case a2 => exact Nat.le_trans hpl.1 (by decide)
          case a3 => exact Nat.le_trans hpl.1 (by decide)
          case a4 => rw [Array.length_toList]; exact Nat.le_trans hpl.1 (by decide)
          intro lx dx io iod pb fs pc h' kt T k19 ev t1 ts tl tt k F' hev o1 o2 o3 o4 o5 o6 _ _ _ _ _ N'
          (try clear F9 N9)
          k_steps
          rename Fr _ _ _ _ => F10
          rename News _ _ _ _ => N10
          exact Mine.sp_mk F10 N10 (fun p hp => hp) ⟨lx, _, _, ⟨dx, io, iod, pb, fs, pc, kt, T, k19, ev, t1, ts, tl, tt, hev, o1, o2, o3, o4, o5, o6, rfl⟩, Mine.has4 rfl rfl rfl rfl⟩
      case g2 =>
        rintro m11 _ h11 tk11 ⟨lx, t11, t12, ⟨dx, io, iod, pb, fs, pc, kt, T, k19, ev, t1, ts, tl, tt, hev, o1, o2, o3, o4, o5, o6, rfl⟩, e11⟩ - F11 N11
        clear F9 N9
        obtain ⟨m12, F12⟩ := Mine.kst_intro F11 e11
        clear F11 e11
        (repeat' (first | (k_unfold; (try dsimp only)) | ((fail_if_success (with_reducible show wpAny _ _ (execs (Stmt.If _ _ _ _ :: _) _) _ _ _)); walk1)))
        (try dsimp only)
        (repeat' (first | (k_unfold; (try dsimp only)) | ((fail_if_success (with_reducible show wpAny _ _ (execs (Stmt.If _ _ _ _ :: _) _) _ _ _)); walk1)))
        rename Fr _ _ _ _ => F13
        rename News _ _ _ _ => N13
        (try dsimp only at N13)
        obtain ⟨lg, hZ, N14⟩ := Mine.lz_0N (P := w.params) (x := tx) (pu := Mine.pu1 cs) (sp := sp) (kt := kt) (k19 := k19) (t1 := t1) (ts := ts) (tl := tl) (tt := tt) (T := { T with c4 := tk11 }) N13 hev o1 o2 o3 o4 o5 o6
        clear N13 hev o1 o2 o3 o4 o5 o6
        refine Mine.st_mid (fun m' l tk => ∃ t2, l = lg ∧ Mine.Has m' [(Str.ofString "lex", .ref lx), (Str.ofString "text", .str (Mine.S tx) t11), (Str.ofString "runs", .str (Mine.pu1 cs) t2), (Str.ofString "split", .bool sp)]) F13 ?i1 ?i2
        case i1 =>
          cases cs with
          | nil =>
            k_steps
            rename Fr _ _ _ _ => F10
            rename News _ _ _ _ => N10
            exact Mine.sp_mk F10 N10 (fun p hp => hp) ⟨_, rfl, Mine.has4 rfl rfl rfl rfl⟩
          | cons c0 cr =>
            k_steps
            rename Fr _ _ _ _ => F10
            rename News _ _ _ _ => N10
            exact Mine.sp_mk F10 N10 (fun p hp => hp) ⟨_, rfl, Mine.has4 rfl rfl rfl rfl⟩
        case i2 =>
          rintro m13 lg h13 tk13 ⟨t13, rfl, e13⟩ - F15 N15
          clear F13 N14
          obtain ⟨m14, F14⟩ := Mine.kst_intro F15 e13
          clear F15 e13
          (repeat' (first | (k_unfold; (try dsimp only)) | ((fail_if_success (with_reducible show wpAny _ _ (execs (Stmt.Try _ _ _ _ _ :: _) _) _ _ _)); walk1)))
          dsimp only
          rename Fr _ _ _ _ => F17
          rename News _ _ _ _ => N17
          rename ∀ p ∈ lg, p.1 < _ => hta
          rename Addr => ta
          have hap : ∀ o, Mine.ApZ lg [(ta, o)] := fun o q hq p hp => by rw [List.mem_singleton.mp hp]; exact Nat.ne_of_gt (hta q hq)
          refine Mine.st_mid (Mine.Rz w.params sp (Mine.pu1 cs) tx lx ta) F17 ?j1 ?j2
          case j1 =>
            (repeat' (first | (k_unfold; (try dsimp only)) | ((fail_if_success (with_reducible show wpAny _ _ (exec (Stmt.For _ _ _ _ _) _) _ _ _)); walk1)))
            rename Fr _ _ _ _ => F18
            refine Mine.abz F18 w.params sp (Mine.pu1 cs) tx lx ta ?l1 ?l2 ?l3 ?l4
            case l3 => passes_own
            case l1 =>
              rintro _ ⟨h, tk, m', l, rfl, F', N', r⟩
              dsimp only
              refine wpAny_execs_nil ?_
              dsimp only
              refine wpAny_execs_nil ?_
              dsimp only
              exact Mine.sp_mk F' N' (fun p hp => hp) r
            case l2 =>
              rintro _ _ ⟨h', ea, t, g', k, tv, m', told, vs, n, q, body, tf, t2, t11, rfl, rfl, S', FG', U', e', hv, hZ⟩
              obtain ⟨m2, FG2⟩ := Mine.kst_intro FG' e'
              clear N17 F18 FG'
              dsimp only
              refine' Mine.caught_C (T' := "ValueError") ?a1 ?a2 ?a3 S' FG2 U' ?a4 ?a5 ?a6 ?a7 ?a8 ?a9 ?a10
              case a1 => exact rfl
              case a2 => exact rfl
              case a3 => exact rfl
              case a4 => exact PySem.F.isExc_ValueError
              case a5 => exact PySem.F.notTuple_ValueError
              case a6 => kts_sub
              case a7 => exact rfl
              case a8 => exact rfl
              case a9 =>
                intro h5 Q5 E5 F5 hq5
                walk1
                exact hq5
              case a10 =>
                intro h7 news2 tk7 E7 F7 N7 hgot N7b
                (repeat' (first | (k_unfold; (try dsimp only)) | ((fail_if_success (with_reducible show wpAny _ _ (call (Value.type "str") _) _ _ _)); walk1)))
                refine str_got_one PySem.F.excStr_ValueError N7 hgot (Nat.le_of_ble_eq_true rfl) ?_
                k_steps
                rename Fr _ _ _ _ => F8
                rename News _ _ _ _ => N8
                refine Mine.CatchEnd.mk F8 N8 ?_
                intro h9 v9 F9 N9
                obtain ⟨r0, hfin⟩ := Mine.fin_bad (P := w.params) (lx := lx) (lg := []) hZ
                dsimp only
                exact Mine.sp_mk F9 N9 (fun p hp => hp) (Mine.rz_mk (Mine.has6Z rfl rfl rfl rfl rfl rfl) hv (fun _ h => nomatch h) hfin)
            case l4 =>
              intro Q' E' hq he hp
              refine' For_invVF F18 ?k1 ?k2 ?_ ?k3 hp
              case k1 => exact rfl
              case k2 => exact rfl
              case k3 => exact fun _ => rfl
              (repeat' (first | (k_unfold; (try dsimp only)) | ((fail_if_success (with_reducible show wpAny _ _ (call (Value.builtin "len") _) _ _ _)); walk1)))
              refine Mine.len_S (Nat.le_trans htl3 (by decide)) fun t21 k21 => ?_
              (repeat' (first | (k_unfold; (try dsimp only)) | ((fail_if_success (with_reducible show wpAny _ _ (call (Value.type "range") _) _ _ _)); walk1)))
              refine range1_rows F18 N17 ?_
              intro h22 tk22 t1r u1r v1r hR F22 N22 _
              clear F18 N17
              dsimp only
              refine kst_range (σ := Mine.RdZ) (n := tx.length + 2) (fun c => (ta, listOf c.vs.toArray c.n) :: c.lg) (fun _ => [(Str.ofString "told", .ref ta), (Str.ofString "lex", .ref lx)]) (fun _ => True) [] (Mine.RdP w.params tx (Mine.pu1 cs) sp lx lg) ⟨[], [], 0, .white, tx, lg⟩ rfl hR (Mine.rsm (Nat.le_trans htl3 (by decide))) (Mine.rsz _) F22 N22 trivial ?s1 (Mine.rd_0 hZ) ?s3 ?s4
              case s1 =>
                intro p hp
                simp only [List.mem_cons, List.not_mem_nil, or_false] at hp
                rcases hp with rfl | rfl
                · exact rfl
                · exact rfl
              case s3 =>
                intro c pre kk tk0 u h23 tk23 own hkk hlt hoff _ hP F23 N23
                clear F22 N22 hR
                have hM := Mine.mthZ hP.2.2.1 N23 (fun p hp => List.mem_append_left _ (.tail _ hp))
                (repeat' (first | (k_unfold; (try dsimp only)) | ((fail_if_success (with_reducible show wpAny _ _ (call (Value.ref 690) _) _ _ _)); walk1)))
                refine' Mine.rz (rest := (ta, listOf c.vs.toArray c.n) :: own) ?k1 ?k2 ?k3 ?k4 ?k5 ?k6 (Mine.pu1_zf hY3) (Nat.le_trans htl3 (by decide)) (Nat.le_trans (Mine.TZ.inp_le hP.2.1).1 (Nat.le_trans htl3 (by decide))) hpl.2 (Nat.le_trans hpl.1 (by decide)) (Mine.TZ.inp_le hP.2.1).2.2 hP.2.2.1 (Mine.ap_ownZ (hap _) hP.2.2.2 hoff) ?k22 ?_ ?_
                case k22 => exact Mine.news_rotZ N23
                case k1 => k_asm
                case k2 => k_asm
                case k3 => k_asm
                case k4 => k_asm
                case k5 => k_room
                case k6 => k_units
                · intro h24 lg2 tok st' rem ln ln' push t24 k24 F24 N24 hRt hL2 hs2
                  clear F23 N23 hM
                  rcases Mine.tz_step (Mine.pu1_zf hY3) hP.2.1 hRt with ⟨t0, st0, rem0, ln0, push0, e0, hT⟩ | ⟨q, body, ln0, e0, _⟩
                  · cases e0
                    (try dsimp only)
                    (repeat' (first | (k_unfold; (try dsimp only)) | ((fail_if_success (with_reducible show wpAny _ _ (call (Value.builtin "list.append") _) _ _ _)); walk1)))
                    refine Mine.app_ownZ F24 (Mine.news_rotY N24) (Mine.ta_off (hap (listOf #[] 0)) (Eq.trans hs2 hP.2.2.2) hoff) (Mine.rd_sz hP hlt (Nat.le_trans htl3 (by decide))) ?_
                    intro h26 F26 N26
                    clear F24 N24
                    k_steps
                    refine' Mine.rd_end (c0 := ⟨[], [], 0, .white, tx, lg⟩) rfl F26 N26 ?hn (Mine.has2Z rfl rfl) Mine.rest2Z (Mine.rd_ok hP hT hL2 hs2)
                    case hn => exact fun p hp => hp
                  · cases e0
                · intro h24 ea t24 g24 lg2 tok st' ln ln' k24 tv S24 FG24 U24 hRt
                  clear F23 N23 hM
                  rcases Mine.tz_step (Mine.pu1_zf hY3) hP.2.1 hRt with ⟨t0, st0, rem0, ln0, push0, e0, hT⟩ | ⟨q, body, ln0, e0, hZ2⟩
                  · cases e0
                  · cases e0
                    exact he _ _ (Mine.pe_mk (Mine.raised_subZ S24 (fun p hp => by rw [List.mem_singleton.mp hp]; exact List.mem_append_right _ (.head _))) FG24 U24 (Mine.has6Z rfl rfl rfl rfl rfl rfl) hP.1 hZ2)
              case s4 =>
                intro c u h25 tk25 _ hP F25 N25
                clear F22 N22 hR
                obtain ⟨ws, r, hfin⟩ := Mine.fin_ok hP (rangeKs_length _ _)
                exact hq _ (Mine.sp_mk F25 N25 (fun p hp => hp) (Mine.rz_mk (Mine.has6Z rfl rfl rfl rfl rfl rfl) hP.1 ((hap _).same hP.2.2.2) hfin))
          case j2 =>
            rintro m19 _ h19 tk19 ⟨told, vs, n, ws, r, ft, tf, t18, t19, lg', e19, rfl, hv, hap2, hF⟩ - F19 N19
            clear F17 N17 hap hta
            obtain ⟨m20, F20⟩ := Mine.kst_intro F19 e19
            clear F19 e19
            (repeat' (first | (k_unfold; (try dsimp only)) | ((fail_if_success (with_reducible show wpAny _ _ (exec (Stmt.Assign [Expr.Name _ _] (Expr.ListComp _ _ _ _) _) _) _ _ _)); walk1)))
            obtain ⟨⟨j, hj⟩, hck⟩ := Mine.fin_ws hF
            refine' LCt.Assign_ListComp_T F20 (cl := _) ?c1 ?c2 ?c3 ?c4 ?c5 ?c6 ?c7 ?c8 ?c9 ?_ ?c10
            case c1 => exact rfl
            case c2 => with_unfolding_all rfl
            case c3 => with_unfolding_all rfl
            case c4 => decide
            case c5 => exact rfl
            case c6 => decide
            case c7 => exact rfl
            case c8 => exact rfl
            case c9 => exact rfl
            case c10 => exact fun _ => rfl
            walk1
            rename Fr _ _ _ _ => F21
            rename News _ _ _ _ => N21
            refine' LCt.CompSrcT.ledger ?d1 F21 N21 ?d4 ?d5 ?_
            case d1 => exact rfl
            case d4 => exact .head _
            case d5 => exact Mine.told_sz hv (Mine.fin_len hF).1 (Nat.le_trans htl3 (by decide))
            intro g22
            refine Mine.flt_told hv Mine.neE ?turn ?fin
            case turn =>
              intro y t I oI C oC D m₂ ys h tk E' hy hC hx F' N' off ne
              obtain ⟨l, hl, rfl⟩ := List.mem_map.mp hy
              clear F21 N21
              cases l with
              | nil =>
                k_steps
                all_goals exact PyProof.Rows.LCg.CompEnd.intro (by assumption) (by assumption) _ (fun p hp => hp) (by assumption) (.inr ⟨_, .head _, rfl, _, rfl⟩) ⟨rfl, Mine.neE_S []⟩
              | cons a0 r0 =>
                k_steps
                all_goals exact PyProof.Rows.LCg.CompEnd.intro (by assumption) (by assumption) _ (fun p hp => hp) (by assumption) (.inr ⟨_, .head _, rfl, _, rfl⟩) ⟨rfl, Mine.neE_S (a0 :: r0), _, rfl⟩
            case fin =>
              intro ys hys
              rw [hj, Mine.flt_ne hck.ne] at hys
              intro wa h23 tk23 F23 N23 off23
              clear F21 N21
              dsimp only
              (repeat' (first | (k_unfold; (try dsimp only)) | ((fail_if_success (with_reducible show wpAny _ _ (exec (Stmt.For _ _ _ _ _) _) _ _ _)); walk1)))
              rename Fr _ _ _ _ => F24
              rename News _ _ _ _ => N24
              refine' For_invVF F24 ?k1 ?k2 ?_ ?k3 PassesOwn.never
              case k1 => exact rfl
              case k2 => exact rfl
              case k3 => exact fun _ => rfl
              walk1
              refine Mine.strs_fix (σ := List Nat × Tok) ((wa, LCg.lst ys) :: (ta, listOf vs.toArray n) :: lg') (fun c => [(Str.ofString "rest", .str (Mine.S c.1) c.2)]) (Mine.PZ sp (Mine.Wz (Mine.pu1 cs)) (Mine.Uz (Mine.pu1 cs)) tx.length ws r) (tx, t19) rfl (.head _) hys F24 N24 ?s1 (Mine.pz_0 hck) ?s3 ?s4
              case s1 =>
                intro p hp
                rw [List.mem_singleton.mp hp]
                exact rfl
              case s3 =>
                rintro ⟨cr, ct⟩ pre post nn tn u h25 tk25 own hns hoff hP F25 N25
                obtain ⟨gp, a1, t1, y1, rfl, e1, hgp, hno, hst, hmem, hlen, hnext⟩ := Mine.pz_next hP hns
                dsimp only at e1
                subst e1
                clear F24 N24 hP
                have hl1 := Nat.le_trans hlen htl3
                (repeat' (first | (k_unfold; (try dsimp only)) | ((fail_if_success (with_reducible show wpAny _ _ (call (Value.builtin "str.lstrip") _) _ _ _)); walk1)))
                refine Mine.lstrip_S hgp (.inr hno) (Nat.le_trans hl1 (by decide)) fun t26 k26 => ?_
                (repeat' (first | (k_unfold; (try dsimp only)) | ((fail_if_success (with_reducible show wpAny _ _ (call (Value.builtin "str.startswith") _) _ _ _)); walk1)))
                refine Mine.starts_S (t := a1 :: t1) (r := y1) ?_
                (repeat' (first | (k_unfold; (try dsimp only)) | ((fail_if_success (with_reducible show wpAny _ _ (call (Value.builtin "len") _) _ _ _)); walk1)))
                refine Mine.len_S (l := a1 :: t1) (Mine.tok_len hl1) fun t27 k27 => ?_
                (repeat' (first | (k_unfold; (try dsimp only)) | ((fail_if_success (with_reducible show wpAny _ _ (subscriptTail _ _ _ _) _ _ _)); walk1)))
                rename Fr _ _ _ _ => F28
                rename News _ _ _ _ => N28
                refine' Mine.cut_S (s := ⟨_, _, _, _, _⟩) (t := a1 :: t1) (r := y1) F28 N28 ?clen ?hs ?ht ?_
                case clen => exact Mine.cut_len hl1
                case hs => with_unfolding_all rfl
                case ht => intro _; with_unfolding_all rfl
                intro h29 t29 k29 F29 N29
                clear F28 N28
                (repeat' (first | (k_unfold; (try dsimp only)) | ((fail_if_success (with_reducible show wpAny _ _ (call (Value.ref 745) _) _ _ _)); walk1)))
                refine' Mine.stands1 ?k1 ?k2 ?k3 ?k4 ?k5 ?k6 (Mine.tok_len2 hl1).1 (Mine.tok_len2 hl1).2 hst ?k22 ?_
                case k22 => k_asm
                case k1 => k_asm
                case k2 => k_asm
                case k3 => k_asm
                case k4 => k_asm
                case k5 => k_room
                case k6 => k_units
                intro h30 k30 F30 N30
                (try clear F29)
                (try clear N29)
                k_steps
                rename Fr _ _ _ _ => F31
                rename News _ _ _ _ => N31
                refine' Mine.fx_end (c := (y1, _)) F31 N31 ?hn (Mine.has1Z rfl) Mine.rest1Z (hnext _)
                case hn => exact fun p hp => hp
              case s4 =>
                rintro ⟨cr, ct⟩ u h27 tk27 hP F27 N27
                have hr := Mine.pz_done hP
                dsimp only at hr
                subst hr
                clear F24 N24 hP
                (repeat' (first | (k_unfold; (try dsimp only)) | ((fail_if_success (with_reducible show wpAny _ _ (call (Value.builtin "str.lstrip") _) _ _ _)); walk1)))
                have hfl := Mine.fin_len hF
                have hy1 : ys.length = ws.length := by rw [hys.length, List.length_map]
                have hlt := Mine.told_lt hck hj htx
                cases hF with
                | ok e1 e2 hc hr hL =>
                  subst e1
                  refine Mine.lstrip_S0 hr (Mine.rest_len hc htl3) fun t28 k28 => ?_
                  (repeat' (first | (k_unfold; (try dsimp only)) | ((fail_if_success (with_reducible show wpAny _ _ (newList _) _ _ _)); walk1)))
                  rename Fr _ _ _ _ => F28
                  rename News _ _ _ _ => N28
                  refine Mine.new1 F28 N28 ?_
                  intro le h29 F29 N29
                  clear F28 N28
                  (repeat' (first | (k_unfold; (try dsimp only)) | ((fail_if_success (with_reducible show wpAny _ _ (call (Value.builtin "len") _) _ _ _)); walk1)))
                  refine Mine.len_S (Nat.le_trans htl3 (by decide)) fun t30 k30 => ?_
                  (repeat' (first | (k_unfold; (try dsimp only)) | ((fail_if_success (with_reducible show wpAny _ _ (call (Value.builtin "len") _) _ _ _)); walk1)))
                  refine Mine.lenL N29 (.tail _ (.head _)) (Mine.ys_sz hy1 hfl.2 htl3) ?_
                  (repeat' (first | (k_unfold; (try dsimp only)) | ((fail_if_success (with_reducible show wpAny _ _ (binaryOp Operator.Mult _ _) _ _ _)); walk1)))
                  refine Mine.mulZ F29 N29 (.head _) (Mine.mul_bd hy1 hfl.2 htl3).1 (Mine.mul_bd hy1 hfl.2 htl3).2 ?_
                  intro lm h31 F31 N31
                  clear F29 N29
                  (repeat' (first | (k_unfold; (try dsimp only)) | ((fail_if_success (with_reducible show wpAny _ _ (binaryOp Operator.Add (Value.ref _) (Value.ref _)) _ _ _)); walk1)))
                  refine Mine.catZ F31 N31 (.tail _ (.tail _ (.head _))) (.head _) (Mine.cat_sz hy1 hfl.2 htl3) ?_
                  intro lc h32 F32 N32
                  clear F31 N31
                  (repeat' (first | (k_unfold; (try dsimp only)) | ((fail_if_success (with_reducible show wpAny _ _ (compareOp CmpOp.Eq (Value.ref _) (Value.ref _)) _ _ _)); walk1)))
                  refine Mine.eq_sameL N32 (.tail _ (.tail _ (.tail _ (.tail _ (.head _))))) (Mine.strs_datL hv) (.head _) ((Mine.strs_datL hys).append (Mine.rep_datL (.str _ _) _)) (Mine.dats_okS hlt) (Nat.le_of_ble_eq_true rfl) (by rw [e2]; exact Mine.told_es (Mine.mul_nat hy1)) ?_
                  have hM := Mine.mthZ hL N32 (fun p hp => .tail _ (.tail _ (.tail _ (.tail _ (.tail _ hp)))))
                  (repeat' (first | (k_unfold; (try dsimp only)) | ((fail_if_success (with_reducible show wpAny _ _ (call (Value.ref 683) _) _ _ _)); walk1)))
                  refine' Mine.gz (rest := [(ta, listOf vs.toArray n)]) ?k1 ?k2 ?k3 ?k4 ?k5 ?k6 (Mine.pu1_zf hY3) (Nat.le_trans htl3 (by decide)) hpl.2 (Nat.le_trans hpl.1 (by decide)) hL hap2 ?k22 ?_
                  case k22 => exact Mine.sub5 N32
                  case k1 => k_asm
                  case k2 => k_asm
                  case k3 => k_asm
                  case k4 => k_asm
                  case k5 => k_room
                  case k6 => k_units
                  intro h33 t33 k33 F33 N33
                  clear F32 N32 hM
                  (repeat' (first | (k_unfold; (try dsimp only)) | walk1))
                  rw [show (Str.ofString "" == Str.ofString "") = true by decide +kernel]
                  refine hQv _ _ ?_
                  k_steps
                | bad g q body e1 e2 hc e3 hg hq hb =>
                  subst e1
                  have hl3 := Mine.rest_len hc htl3
                  subst e3
                  have hl0 := Mine.hl0 (q := q) (body := body)
                  have hq' : (Str.ofString "'\"").cps.toList.contains q = true := hq
                  have hb' := Mine.nb hb
                  refine Mine.lstrip_S hg (.inr (Mine.noz_q (Mine.pu1_zf hY3) hq)) hl3 fun t28 k28 => ?_
                  (repeat' (first | (k_unfold; (try dsimp only)) | ((fail_if_success (with_reducible show wpAny _ _ (compareOp CmpOp.NotEq (Value.ref _) (Value.ref _)) _ _ _)); walk1)))
                  dsimp only
                  rename Fr _ _ _ _ => F28
                  rename News _ _ _ _ => N28
                  refine Mine.ne_sameL N28 (.tail _ (.head _)) (Mine.strs_datL hv) (.head _) (Mine.strs_datL hys) (Mine.dats_okS hlt) (Nat.le_of_ble_eq_true rfl) (by rw [e2]) ?_
                  (repeat' (first | (k_unfold; (try dsimp only)) | ((fail_if_success (with_reducible show wpAny _ _ (subscriptTail _ (Expr.Slice _ _ _ _) _ _) _ _ _)); walk1)))
                  rename Fr _ _ _ _ => F29
                  rename News _ _ _ _ => N29
                  refine' Mine.cut_S (s := ⟨_, _, _, _, _⟩) (t := [q]) (r := body) F29 N29 ?clen ?hs ?ht ?_
                  case clen => exact Mine.cut_len1 hl3
                  case hs => with_unfolding_all rfl
                  case ht => intro _; with_unfolding_all rfl
                  intro h30 t30 k30 F30 N30
                  clear F29 N29
                  (repeat' (first | (k_unfold; (try dsimp only)) | walk1))
                  dsimp only
                  refine hQv _ _ ?_
                  k_steps

end
theorem PySem.Challenge.cw_kq0019_01_holds : PySem.Challenge.rw_kq0019_01.Holds := by
  exact Mine.law_all

