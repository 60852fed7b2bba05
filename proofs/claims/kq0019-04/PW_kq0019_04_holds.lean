import PyProof.Rows.All
import Wide.All
import OpenK.AllK
import Wide.FinOn
import PySem.Challenge.RW_kq0019_04
open PySem PySem.W PyProof.Rows PySem.Calls PySem.Spec
set_option Elab.async false
set_option maxRecDepth 100000
set_option maxHeartbeats 0
set_option rowWalk.seconds 0
set_option compiler.extract_closed false
set_option linter.all false
namespace Mine
theorem keep_goal {p : Prop} (_ : True) (h : p) : p := h
section
local macro_rules | `(tactic| o_head $_) => `(tactic| refine keep_goal ?hw ?hc)
local macro_rules | `(tactic| w_witness2) => `(tactic| exact trivial)
open_top hd for (PySem.Challenge.rw_kq0019_04.row)
end
end Mine
theorem Mine.walk_off : True := by
  w_top off
  trivial
namespace Mine
theorem dq_attrs : PlainAttrs "collections.deque" :=
  ⟨⟨"collections.deque.__getattribute__", by rw [typeLookup_type, builtinLookup_eq_fast]; kernel_rfl, by decide +kernel⟩, by rw [typeLookup_type, builtinLookup_eq_fast]; kernel_rfl⟩
theorem dq_owner : Manifest.owners.lookup (String.ofList ['e', 'u', 'q', 'e', 'd', '.', 's', 'n', 'o', 'i', 't', 'c', 'e', 'l', 'l', 'o', 'c'].reverse) = some Manifest.sig_collections_deque := by kernel_rfl
theorem dq_slot_append : Slot "collections.deque" "append" "collections.deque.append" :=
  .of (owner := "collections.deque") (n := "append") (by rw [typeLookup_type, builtinLookup_eq_fast]; kernel_rfl) (by decide +kernel) (by decide +kernel) (by decide +kernel)
    (by first | exact .inl (by decide +kernel) | exact .inr (by decide +kernel)) (by rw [isSubtype_type]; kernel_rfl)
theorem dq_entry_append : entryFor table "collections.deque.append" = some Builtin.«collections.deque.append» := entryFor_of_tree (by kernel_rfl)
theorem dq_args_append (a b : Value) : argsOk "collections.deque.append" ⟨[a, b], []⟩ := by
  unfold argsOk; rw [signature?_of (id := "collections.deque.append") (n := ['d', 'n', 'e', 'p', 'p', 'a']) (o := ['e', 'u', 'q', 'e', 'd', '.', 's', 'n', 'o', 'i', 't', 'c', 'e', 'l', 'l', 'o', 'c']) (by kernel_rfl) dq_owner]; kernel_rfl
theorem dq_type_append : typeOf (.builtin "collections.deque.append") = pure (.type "method_descriptor") := by show builtinType _ = _; rw [builtinType_eq_fast]; kernel_rfl
theorem dq_slot_appendleft : Slot "collections.deque" "appendleft" "collections.deque.appendleft" :=
  .of (owner := "collections.deque") (n := "appendleft") (by rw [typeLookup_type, builtinLookup_eq_fast]; kernel_rfl) (by decide +kernel) (by decide +kernel) (by decide +kernel)
    (by first | exact .inl (by decide +kernel) | exact .inr (by decide +kernel)) (by rw [isSubtype_type]; kernel_rfl)
theorem dq_entry_appendleft : entryFor table "collections.deque.appendleft" = some Builtin.«collections.deque.appendleft» := entryFor_of_tree (by kernel_rfl)
theorem dq_args_appendleft (a b : Value) : argsOk "collections.deque.appendleft" ⟨[a, b], []⟩ := by
  unfold argsOk; rw [signature?_of (id := "collections.deque.appendleft") (n := ['t', 'f', 'e', 'l', 'd', 'n', 'e', 'p', 'p', 'a']) (o := ['e', 'u', 'q', 'e', 'd', '.', 's', 'n', 'o', 'i', 't', 'c', 'e', 'l', 'l', 'o', 'c']) (by kernel_rfl) dq_owner]; kernel_rfl
theorem dq_type_appendleft : typeOf (.builtin "collections.deque.appendleft") = pure (.type "method_descriptor") := by show builtinType _ = _; rw [builtinType_eq_fast]; kernel_rfl
theorem dq_slot_pop : Slot "collections.deque" "pop" "collections.deque.pop" :=
  .of (owner := "collections.deque") (n := "pop") (by rw [typeLookup_type, builtinLookup_eq_fast]; kernel_rfl) (by decide +kernel) (by decide +kernel) (by decide +kernel)
    (by first | exact .inl (by decide +kernel) | exact .inr (by decide +kernel)) (by rw [isSubtype_type]; kernel_rfl)
theorem dq_entry_pop : entryFor table "collections.deque.pop" = some Builtin.«collections.deque.pop» := entryFor_of_tree (by kernel_rfl)
theorem dq_args_pop (a : Value) : argsOk "collections.deque.pop" ⟨[a], []⟩ := by
  unfold argsOk; rw [signature?_of (id := "collections.deque.pop") (n := ['p', 'o', 'p']) (o := ['e', 'u', 'q', 'e', 'd', '.', 's', 'n', 'o', 'i', 't', 'c', 'e', 'l', 'l', 'o', 'c']) (by kernel_rfl) dq_owner]; kernel_rfl
theorem dq_type_pop : typeOf (.builtin "collections.deque.pop") = pure (.type "method_descriptor") := by show builtinType _ = _; rw [builtinType_eq_fast]; kernel_rfl
theorem dq_slot_popleft : Slot "collections.deque" "popleft" "collections.deque.popleft" :=
  .of (owner := "collections.deque") (n := "popleft") (by rw [typeLookup_type, builtinLookup_eq_fast]; kernel_rfl) (by decide +kernel) (by decide +kernel) (by decide +kernel)
    (by first | exact .inl (by decide +kernel) | exact .inr (by decide +kernel)) (by rw [isSubtype_type]; kernel_rfl)
theorem dq_entry_popleft : entryFor table "collections.deque.popleft" = some Builtin.«collections.deque.popleft» := entryFor_of_tree (by kernel_rfl)
theorem dq_args_popleft (a : Value) : argsOk "collections.deque.popleft" ⟨[a], []⟩ := by
  unfold argsOk; rw [signature?_of (id := "collections.deque.popleft") (n := ['t', 'f', 'e', 'l', 'p', 'o', 'p']) (o := ['e', 'u', 'q', 'e', 'd', '.', 's', 'n', 'o', 'i', 't', 'c', 'e', 'l', 'l', 'o', 'c']) (by kernel_rfl) dq_owner]; kernel_rfl
theorem dq_type_popleft : typeOf (.builtin "collections.deque.popleft") = pure (.type "method_descriptor") := by show builtinType _ = _; rw [builtinType_eq_fast]; kernel_rfl
theorem dq_slot_len : Slot "collections.deque" "__len__" "collections.deque.__len__" :=
  .of (owner := "collections.deque") (n := "__len__") (by rw [typeLookup_type, builtinLookup_eq_fast]; kernel_rfl) (by decide +kernel) (by decide +kernel) (by decide +kernel)
    (by first | exact .inl (by decide +kernel) | exact .inr (by decide +kernel)) (by rw [isSubtype_type]; kernel_rfl)
theorem dq_entry_len : entryFor table "collections.deque.__len__" = some Builtin.«collections.deque.__len__» := entryFor_of_tree (by kernel_rfl)
theorem dq_args_len (a : Value) : argsOk "collections.deque.__len__" ⟨[a], []⟩ := by
  unfold argsOk; rw [signature?_of (id := "collections.deque.__len__") (n := ['_', '_', 'n', 'e', 'l', '_', '_']) (o := ['e', 'u', 'q', 'e', 'd', '.', 's', 'n', 'o', 'i', 't', 'c', 'e', 'l', 'l', 'o', 'c']) (by kernel_rfl) dq_owner]; kernel_rfl
theorem dq_slot_init : Slot "collections.deque" "__init__" "collections.deque.__init__" :=
  .of (owner := "collections.deque") (n := "__init__") (by rw [typeLookup_type, builtinLookup_eq_fast]; kernel_rfl) (by decide +kernel) (by decide +kernel) (by decide +kernel)
    (by first | exact .inl (by decide +kernel) | exact .inr (by decide +kernel)) (by rw [isSubtype_type]; kernel_rfl)
theorem dq_entry_init : entryFor table "collections.deque.__init__" = some Builtin.«collections.deque.__init__» := entryFor_of_tree (by kernel_rfl)

abbrev dqO (vs : List Value) (n : Int) : Obj := { cls := .type "collections.deque", data := .fields (.none :: rawInt n :: vs).toArray }
section
variable {prog : Program} {w : World} {A : Around} {E : Value → Shared → Prop} {s : Shared} {h₀ : Heap} {L : Addr} {m : Str → Option Value} {news news' : List (Addr × Obj)} {q : Addr} {vs : List Value} {n : Int}
theorem dq_typeIs (ho : s.heap.get? q = some (dqO vs n)) : s.TypeIs (.ref q) "collections.deque" := ⟨_, ho, rfl⟩
theorem dq_method {M : Model} {name : Str} {id : String} {pl : Sem Bool} {Q : Value × List Value → Shared → Prop} (slot : Slot "collections.deque" name id) (hty : typeOf (.builtin id) = pure (.type "method_descriptor"))
    (N : News h₀ L s.heap news) (hm : (q, dqO vs n) ∈ news) (h : Q (.builtin id, [.ref q]) s) : wpAny M A (getMethod (.ref q) name pl) Q E s :=
  getMethod_builtin (dq_typeIs (N.get hm)) dq_attrs slot hty (fun a e => by cases e; exact ⟨_, N.get hm, rfl⟩) h
theorem dq_change {f : Array Value → Array Value} {vs' : List Value} {Q : Unit → Shared → Prop} (F : Fr h₀ L s.heap m) (N : News h₀ L s.heap news) (U : Upd q (dqO vs n) (dqO vs' (n + 1)) news news')
    (hf : f vs.toArray = vs'.toArray) (hsz : vs'.length ≤ 1000000)
    (h : ∀ h', Fr h₀ L h' m → News h₀ L h' news' → Q () { s with heap := h' }) : wpAny (model prog w) A (Builtin.Deque.change (.ref q) f) Q E s := by
  obtain ⟨pre, post, rfl, rfl, a, b⟩ := U.split
  have z := N (q, dqO vs n) (List.mem_append.mpr (.inr (.head _)))
  unfold Builtin.Deque.change Builtin.Deque.state field fieldsOf
  dsimp only
  refine wpAny_bind (wpAny_bind (wpAny_bind (wpAny_bind (wpAny_load z.1 (wpAny_pure ?_)))))
  have e1 : (Value.none :: rawInt n :: vs).toArray[1]? = some (rawInt n) := by simp
  rw [e1]
  refine wpAny_pure (wpAny_pure ?_)
  unfold updateFields
  refine wpAny_bind (wpAny_load z.1 ?_)
  dsimp only
  have e : (Obj.mapFields (fun vs => #[vs.getD 0 .none, rawInt (if true = true then n + 1 else n)] ++ f (vs.extract 2 vs.size)) (dqO vs n)) = dqO vs' (n + 1) := by
    unfold Obj.mapFields
    simp [hf]
  have U' := news_upd F N a b e rfl
  refine wpAny_bind (wpAny_update z.1 ?_)
  unfold lookBehind
  have g := (U'.2 (q, dqO vs' (n + 1)) (by simp)).1
  refine wpAny_bind (wpAny_loadPart g ?_)
  have k : (dqO vs' (n + 1)).data.pastItsLine = none := by
    show (Data.fields _).pastItsLine = none
    unfold Data.pastItsLine
    simp [sizeLine]
    omega
  rw [k]
  exact wpAny_pure (h _ U'.1 U'.2)

theorem dq_appendleft {x : Value} {Q : Value → Shared → Prop} (F : Fr h₀ L s.heap m) (N : News h₀ L s.heap news) (U : Upd q (dqO vs n) (dqO (x :: vs) (n + 1)) news news') (hsz : vs.length ≤ 900000)
    (h : ∀ h', Fr h₀ L h' m → News h₀ L h' news' → Q .none { s with heap := h' }) : wpAny (model prog w) A (call (.builtin "collections.deque.appendleft") [.ref q, x]) Q E s := by
  have hm : (q, dqO vs n) ∈ news := by obtain ⟨pre, post, rfl, _⟩ := U.split; simp
  refine wpAny_call_entry dq_slot_appendleft (dq_typeIs (N.get hm)) dq_entry_appendleft ?_ (dq_args_appendleft _ _)
  show wpAny _ _ (Builtin.Deque.pushLeft (.ref q) x >>= fun _ => ret .none) _ _ s
  unfold Builtin.Deque.pushLeft
  refine wpAny_bind (wpAny_bind (dq_change F N U (by simp) (by simp; omega) fun h' F' N' => ?_))
  have hm' : (q, dqO (x :: vs) (n + 1)) ∈ news' := by obtain ⟨pre, post, _, rfl, _⟩ := U.split; simp
  have g := N'.get hm'
  unfold Builtin.Deque.maxlen field fieldsOf
  refine wpAny_bind (wpAny_bind (wpAny_bind (wpAny_bind (wpAny_load g (wpAny_pure ?_)))))
  have e1 : (Value.none :: rawInt (n + 1) :: (x :: vs)).toArray[0]? = some .none := by simp
  rw [e1]
  exact wpAny_pure (wpAny_pure (wpAny_pure (wpAny_pure ⟨_, rfl, h _ F' N'⟩)))
theorem dq_popleft {x : Value} {Q : Value → Shared → Prop} (F : Fr h₀ L s.heap m) (N : News h₀ L s.heap news) (U : Upd q (dqO (x :: vs) n) (dqO vs (n + 1)) news news') (hsz : vs.length ≤ 900000)
    (h : ∀ h', Fr h₀ L h' m → News h₀ L h' news' → Q x { s with heap := h' }) : wpAny (model prog w) A (call (.builtin "collections.deque.popleft") [.ref q]) Q E s := by
  have hm : (q, dqO (x :: vs) n) ∈ news := by obtain ⟨pre, post, rfl, _⟩ := U.split; simp
  have g := N.get hm
  refine wpAny_call_entry dq_slot_popleft (dq_typeIs (N.get hm)) dq_entry_popleft ?_ (dq_args_popleft _)
  show wpAny _ _ (Builtin.«collections.deque.popleft» ⟨[.ref q], []⟩) _ _ s
  unfold Builtin.«collections.deque.popleft» selfOnly noKeywords
  refine wpAny_bind (wpAny_bind (wpAny_pure (wpAny_pure ?_)))
  unfold Builtin.Deque.items fieldsOf
  refine wpAny_bind (wpAny_bind (wpAny_bind (wpAny_load g (wpAny_pure ?_))))
  refine wpAny_pure ?_
  have e1 : ((Value.none :: rawInt n :: (x :: vs)).toArray.extract 2 (Value.none :: rawInt n :: (x :: vs)).toArray.size)[0]? = some x := by simp
  rw [e1]
  refine wpAny_bind (dq_change F N U (by simp) (by omega) fun h' F' N' => ?_)
  exact wpAny_pure ⟨_, rfl, h _ F' N'⟩
theorem dq_truthy {Q : Bool → Shared → Prop} (N : News h₀ L s.heap news) (hm : (q, dqO vs n) ∈ news) (hsz : vs.length ≤ 900000)
    (h : Q (!vs.isEmpty) { s with toks := s.toks + 1 + 1 }) : wpAny (model prog w) A (truthy (.ref q)) Q E s := by
  have g := N.get hm
  have hT := dq_typeIs g
  have key : wpAny (model prog w) A (runValue (.builtin "len" ⟨[.ref q], []⟩)) (fun r s' => r = .int vs.length (s.toks + 1) ∧ Q (!vs.isEmpty) s') E s := by
    refine wpAny_runValue (codeAny_builtin entry_len ?_)
    rw [Around.under_plainId plain_len _]
    unfold Builtin.«len»
    refine wpAny_bind (m := oneArg "len" _) (wpAny_pure ?_)
    refine wpAny_bind (m := callSpecial? (.ref q) (Str.ofString "__len__")) (wpAny_callSpecial?_slot (name := Str.ofString "__len__") hT dq_slot_len
      (wpAny_call_entry dq_slot_len hT dq_entry_len ?_ (dq_args_len _)))
    show wpAny _ _ (Builtin.«collections.deque.__len__» ⟨[.ref q], []⟩) _ _ _
    unfold Builtin.«collections.deque.__len__» slotArgs Builtin.Deque.size fieldsOf
    simp only [List.isEmpty_nil, Bool.not_true, Bool.false_eq_true, ↓reduceIte, bind_assoc, List.length_nil, bne_self_eq_false]
    refine wpAny_bind (wpAny_pure ?_)
    dsimp only
    refine wpAny_bind (wpAny_bind (wpAny_load g (wpAny_pure ?_)))
    refine wpAny_bind (wpAny_pure ?_)
    have e1 : (Value.none :: rawInt n :: vs).toArray.size - 2 = vs.length := by simp
    rw [e1]
    refine wpAny_bind (wpAny_mkInt (wpAny_pure ⟨_, rfl, ?_⟩))
    refine wpAny_bind (wpAny_holding (wpAny_pure ?_))
    refine wpAny_bind (wpAny_letGo ?_)
    show wpAny _ _ (if ((vs.length : Nat) : Int) < 0 then _ else _) _ _ _
    rw [if_neg (by omega)]
    show wpAny _ _ (if ((vs.length : Nat) : Int) ≥ 2 ^ 63 then _ else _) _ _ _
    rw [if_neg (by omega)]
    exact wpAny_bind (wpAny_mkInt (wpAny_pure ⟨rfl, h⟩))
  unfold truthy
  refine wpAny_bind (wpAny_callSpecial?_none (name := Str.ofString "__bool__") hT (by rw [typeLookup_type, builtinLookup_eq_fast]; kernel_rfl) ?_)
  refine wpAny_bind (wpAny_specialOf (name := Str.ofString "__len__") hT dq_slot_len.lookup ?_)
  refine wpAny_bind (wpAny_mono key (fun r s' h' => ?_) fun _ _ e => e)
  obtain ⟨rfl, hq⟩ := h'
  refine wpAny_pure ?_
  have e : ((vs.length : Int) != 0) = !vs.isEmpty := by cases vs <;> simp <;> omega
  first | exact hq | (show Q ((vs.length : Int) != 0) s'; rw [e]; exact hq)
end
end Mine

namespace Mine
theorem dq_mro : mroOf (.type "collections.deque") = pure [.type "collections.deque", .type "object"] := by rw [mroOf_type]; kernel_rfl
theorem dq_lookup_new : typeLookup (.type "collections.deque") "__new__" = pure (some (.builtin "collections.deque.__new__")) := by rw [typeLookup_type, builtinLookup_eq_fast]; kernel_rfl
theorem dq_sub_self : isSubtype (.type "collections.deque") (.type "collections.deque") = pure true := by rw [isSubtype_type]; kernel_rfl
theorem dq_called : TypeCalled "collections.deque" "collections.deque.__new__" "collections.deque.__init__" :=
  ⟨by decide +kernel, by decide +kernel, ⟨_, _, dq_mro⟩, madeBy_type dq_mro dq_lookup_new (by decide +kernel), by decide +kernel, by rw [isSubtype_type]; kernel_rfl, dq_slot_init⟩
theorem dq_typeCall : checkTypeCall "collections.deque" ⟨[], []⟩ = pure () := by kernel_rfl
theorem dq_newCall : checkBuiltinCall "collections.deque.__new__" ⟨[.type "collections.deque"], []⟩ = pure () := by kernel_rfl
theorem dq_entry_new : entryFor table "collections.deque.__new__" = some Builtin.«collections.deque.__new__» := entryFor_of_tree (by kernel_rfl)
theorem dq_plain_new : plainId "collections.deque.__new__" = true := by decide +kernel
section
variable {prog : Program} {w : World} {A : Around} {E : Value → Shared → Prop} {s : Shared}
theorem dq_code_new {Q₁ : Value → Shared → Prop}
    (h : Q₁ (.ref s.heap.objs.size) { s with heap := s.heap.push (dqO [] 0) }) :
    codeAny (model prog w) A (.call (.builtin "collections.deque.__new__") ⟨[.type "collections.deque"], []⟩) (wants Q₁ E) s := by
  refine codeAny_of_tree ?_
  show wpAny _ A.in1 (do checkBuiltinCall "collections.deque.__new__" ⟨[.type "collections.deque"], []⟩; again (.builtin "collections.deque.__new__" ⟨[.type "collections.deque"], []⟩)) _ _ s
  refine wpAny_bind (wpAny_of_eq dq_newCall (wpAny_pure ⟨plainId_quiet dq_plain_new _, codeAny_builtin dq_entry_new ?_⟩))
  rw [Around.under_plainId dq_plain_new _]
  show wpAny _ _ (Builtin.Deque.newArgs Builtin.Deque.ty ⟨[.type "collections.deque"], []⟩ >>= fun p => Builtin.Deque.new p.1 #[] none >>= fun v => ret v) _ _ s
  refine wpAny_bind ?_
  unfold Builtin.Deque.newArgs
  dsimp only
  refine wpAny_bind (wpAny_pure ?_)
  simp only [Bool.not_true, Bool.false_eq_true, if_false]
  refine wpAny_bind (wpAny_of_eq dq_sub_self ?_)
  simp only [Bool.not_true, Bool.false_eq_true, if_false]
  refine wpAny_pure ?_
  refine wpAny_bind ?_
  unfold Builtin.Deque.new
  have hd : typeHasDict (.type "collections.deque") = false := by decide +kernel
  have hz : ¬ (#[] : Array Value).size > sizeLine := by decide
  dsimp only
  rw [if_neg hz, hd]
  simp only [Bool.false_eq_true, if_false]
  refine wpAny_bind (wpAny_pure ?_)
  exact wpAny_newObj_type (wpAny_pure h) (by show _ ≤ _; decide)
theorem dq_sig_init : Manifest.signature? "collections.deque.__init__" = some ⟨.keywords, "deque", "deque", .self, [⟨"iterable", .posOrKw, false⟩, ⟨"maxlen", .posOrKw, false⟩]⟩ := by
  rw [signature?_of (id := "collections.deque.__init__") (n := ['_', '_', 't', 'i', 'n', 'i', '_', '_']) (o := ['e', 'u', 'q', 'e', 'd', '.', 's', 'n', 'o', 'i', 't', 'c', 'e', 'l', 'l', 'o', 'c']) (by kernel_rfl) dq_owner]; kernel_rfl
theorem dq_args_init (a : Value) : argsOk "collections.deque.__init__" ⟨[a], []⟩ := by
  unfold argsOk; rw [signature?_of (id := "collections.deque.__init__") (n := ['_', '_', 't', 'i', 'n', 'i', '_', '_']) (o := ['e', 'u', 'q', 'e', 'd', '.', 's', 'n', 'o', 'i', 't', 'c', 'e', 'l', 'l', 'o', 'c']) (by kernel_rfl) dq_owner]; kernel_rfl

theorem dq_clear0 {a : Addr} {R : Fin → Shared → Prop} {E' : Value → Shared → Prop} {A' : Around} (g : s.heap.get? a = some (dqO [] 0)) (h : ∀ s', s' = s → R (.done (.ret .none)) s') :
    wpAny (model prog w) A' (Builtin.Deque.clear (.ref a) >>= fun _ => ret .none) R E' s := by
  unfold Builtin.Deque.clear Builtin.Deque.items fieldsOf
  refine wpAny_bind (wpAny_bind (wpAny_bind (wpAny_bind (wpAny_load g (wpAny_pure ?_)))))
  refine wpAny_pure ?_
  have e1 : ((Value.none :: rawInt 0 :: ([] : List Value)).toArray.extract 2 (Value.none :: rawInt 0 :: ([] : List Value)).toArray.size).size > 0 ↔ False := by simp
  simp only [e1, if_false]
  exact wpAny_pure (wpAny_pure (h _ rfl))
theorem dq_new0 {Q : Value → Shared → Prop}
    (h : ∀ h', h'.objs.size = s.heap.objs.size + 1 → (∀ b o, s.heap.get? b = some o → h'.get? b = some o) → h'.get? s.heap.objs.size = some (dqO [] 0) → Q (.ref s.heap.objs.size) { s with heap := h' }) :
    wpAny (model prog w) A (call (.type "collections.deque") []) Q E s := by
  obtain ⟨c, tl, hmro⟩ := dq_called.mro
  have hmade := dq_called.made
  have hsub := dq_called.sub
  refine wpAny_call (codeAny_of_tree ?_)
  show wpAny _ _ (callAny (.type "collections.deque") _) _ _ _
  refine wpAny_pure ⟨Code.quiet_builtin _ (by decide +kernel), codeAny_builtin F.entry_type_call ?_⟩
  rw [Around.under_plain (weight_type_call_type "collections.deque" [] []) rfl]
  have h1 := dq_called.notType
  have h2 := dq_called.canCreate
  have hct := dq_typeCall
  repeat (any_goals (first | assumption | wp_step))
  refine codeAny_mono (dq_code_new (E := E) (Q₁ := fun obj s₁ => obj = .ref s.heap.objs.size ∧ s₁ = { s with heap := s.heap.push (dqO [] 0) }) ⟨rfl, rfl⟩) fun r s₁ hr => ?_
  cases r with
  | error e => exact hr
  | ok fl =>
    cases fl with
    | ret obj =>
      obtain ⟨rfl, rfl⟩ := hr
      have hS : (s.heap.push (dqO [] 0)).get? s.heap.objs.size = some (dqO [] 0) := Heap.get?_push_size _ rfl
      have hT : Shared.TypeIs { s with heap := s.heap.push (dqO [] 0) } (.ref s.heap.objs.size) "collections.deque" := ⟨_, hS, rfl⟩
      have hli := dq_called.init.lookup
      have hbi := dq_called.init.bind (.ref s.heap.objs.size)
      repeat (any_goals (first | assumption | wp_step))
      refine codeAny_mono (codeAny_call_builtin (R := wants (fun r s₂ => r = .none ∧ Q (.ref s.heap.objs.size) s₂) E) dq_called.init.plain dq_entry_init (dq_called.init.check _ _ _ _ _ _ _ _ hT (dq_args_init _) ?_)) fun r₂ s₂ hr₂ => ?_
      · show wpAny _ _ (Builtin.«collections.deque.__init__» ⟨[.ref s.heap.objs.size], []⟩) _ _ _
        have e0 : Builtin.«collections.deque.__init__» ⟨[.ref s.heap.objs.size], []⟩ = (setField (.ref s.heap.objs.size) 0 .none >>= fun _ => Builtin.Deque.clear (.ref s.heap.objs.size) >>= fun _ => ret .none) := by
          first | rfl | (unfold Builtin.«collections.deque.__init__»; simp)
        rw [e0]
        unfold setField updateField
        refine wpAny_bind (wpAny_bind (wpAny_load hS ?_))
        have e1 : 0 < (Value.none :: rawInt 0 :: ([] : List Value)).toArray.size := by simp
        dsimp only
        rw [if_pos e1]
        have e2 : Obj.mapFields (·.setIfInBounds 0 .none) (dqO [] 0) = dqO [] 0 := by unfold Obj.mapFields; rfl
        refine wpAny_update hS ?_
        have sb := Heap.SameBut.update (s.heap.push (dqO [] 0)) s.heap.objs.size (Obj.mapFields (·.setIfInBounds 0 .none))
        have g2 : ((s.heap.push (dqO [] 0)).update s.heap.objs.size (Obj.mapFields (·.setIfInBounds 0 .none))).get? s.heap.objs.size = some (dqO [] 0) := by
          rw [Heap.get?_update_self _ hS (by rw [e2]; rfl), e2]
        refine dq_clear0 (s := { s with heap := (s.heap.push (dqO [] 0)).update s.heap.objs.size (Obj.mapFields (·.setIfInBounds 0 .none)) }) g2 ?_
        rintro _ rfl
        refine ⟨rfl, h _ (by rw [sb.1, Heap.size_push]) (fun b o e => ?_) g2⟩
        rw [sb.2 b (Nat.ne_of_lt (Heap.lt_size e))]
        exact Heap.get?_push_of_some _ e
      · cases r₂ with
        | error e => exact hr₂
        | ok fl₂ =>
          cases fl₂ with
          | ret r =>
            obtain ⟨rfl, hq⟩ := hr₂
            repeat (any_goals (first | assumption | wp_step))
          | _ => exact hr₂.elim
    | _ => exact hr.elim
theorem dq_new {h₀ : Heap} {L : Addr} {m : Str → Option Value} {news : List (Addr × Obj)} {Q : Value → Shared → Prop} (F : Fr h₀ L s.heap m) (N : News h₀ L s.heap news)
    (h : ∀ q h', Fr h₀ L h' m → News h₀ L h' ((q, dqO [] 0) :: news) → (∀ p ∈ news, p.1 < q) → Q (.ref q) { s with heap := h' }) : wpAny (model prog w) A (call (.type "collections.deque") []) Q E s := by
  refine dq_new0 fun h' hsz hk hg => h _ h' ?_ ?_ fun p hp => Heap.lt_size (N p hp).1
  · obtain ⟨oL, a1, a2, hL, a3⟩ := F.ns
    exact ⟨⟨oL, a1, a2, hk _ _ hL, a3⟩, fun b o' e => hk _ _ (F.keep b o' e), F.above⟩
  · obtain ⟨oL, _, _, hL, _⟩ := F.ns
    intro p hp
    rcases List.mem_cons.mp hp with rfl | hp
    · refine ⟨hg, Nat.ne_of_gt (Heap.lt_size hL), ?_⟩
      cases hq : h₀.get? s.heap.objs.size with
      | none => rfl
      | some o' => exact absurd (Heap.lt_size (F.keep _ _ hq)) (Nat.lt_irrefl _)
    · exact ⟨hk _ _ (N p hp).1, (N p hp).2.1, (N p hp).2.2⟩
end
end Mine

namespace Mine
abbrev ent (P : Params) (k : String) (t : Tok) (v : Value) : DictEntry := ⟨PyData.keyHash P (Str.ofString k), .str (Str.ofString k) t, v⟩
abbrev ar (hd : Option Value) (d : Nat) (fs : List Env) (gs : Option (List Code)) (u : Nat) : Around := { handled := hd, depth := d, frames := some fs, guards := gs, units := u }
abbrev prog : Program := PySem.Challenge.pw_kq0019_04
abbrev fenv (ns : List (Str × NameKind)) (ig ic : Bool) (mo : List (Str × Const)) (gl : Addr) (cs : List (Str × Addr)) (q : Str) (fo : Option Addr) (cdv : Value) (bi : Addr) (L : Addr) : Env :=
  { scope := { kind := .function, names := ns, isGenerator := ig, isCoroutine := ic, more := mo }, locals := L, globals := gl, cells := cs, qual := q, func := fo, code := cdv, frame := some L, builtins := bi }
/-- the objects of a StringIO: x its text, p its place, toks of the keys kt -/
theorem units_kw (A : Around) (C : Addr) (vals : List Value) (kw : List (Str × Value)) : (A.under (.builtin "type.__call__" ⟨.ref C :: vals, kw⟩)).units = A.units + 1 := rfl
structure IoT where
  (a b c d e : Tok)
abbrev ioD (P : Params) (kt : IoT) (x : Str) (p : Nat) (v : Tok) : Obj := dictOf [ent P "_StringIO__newline" kt.a (.str (Str.ofString "\n") kt.b), ent P "_StringIO__buf" kt.c (.str x kt.d), ent P "_StringIO__pos" kt.e (.int p v)] 3
structure LxT where
  (k0 k1 k2 k3 k4 k5 k6 k7 k8 k9 k10 k11 k12 k13 k14 k15 k16 k17 k18 : Tok)
  (c4 c5 c6 c8 c9 c10 c14 c18 : Tok)
/-- the lexer's dict: io its stream, f its name, ev its eof, cm its commenters, wc its wordchars, sp whitespace_split, sv its state, ln its line, tk its token -/
abbrev lexD (P : Params) (T : LxT) (b sp : Bool) (ev : Value) (cm wc : Str) (pb fs io : Addr) (f sv : Value) (ln : Int) (tl : Tok) (tk : Str) (tt : Tok) : Obj := dictOf [
  ent P "instream" T.k0 (.ref io), ent P "infile" T.k1 f, ent P "posix" T.k2 (.bool b), ent P "eof" T.k3 ev, ent P "commenters" T.k4 (.str cm T.c4), ent P "wordchars" T.k5 (.str wc T.c5),
  ent P "whitespace" T.k6 (.str (Str.ofString " \t\x0d\n") T.c6), ent P "whitespace_split" T.k7 (.bool sp), ent P "quotes" T.k8 (.str (Str.ofString "'\"") T.c8), ent P "escape" T.k9 (.str (Str.ofString "\\") T.c9),
  ent P "escapedquotes" T.k10 (.str (Str.ofString "\"") T.c10), ent P "state" T.k11 sv, ent P "pushback" T.k12 (.ref pb), ent P "lineno" T.k13 (.int ln tl), ent P "debug" T.k14 (.int 0 T.c14),
  ent P "token" T.k15 (.str tk tt), ent P "filestack" T.k16 (.ref fs), ent P "source" T.k17 .none, ent P "_punctuation_chars" T.k18 (.str (Str.ofString "") T.c18)] 19
def ch1 (x : Str) (p : Nat) : Str := ⟨(x.cps.toList.drop p |>.take 1).toArray⟩
end Mine
namespace Mine
theorem sp_is : Str.ofString " " = ⟨#[32]⟩ := by decide +kernel
theorem slice_plus {x : Str} {a b : Int} (h0 : 0 ≤ a) (h : a ≤ b) (hb : b ≤ x.length) :
    Txt.slice (Txt.slice x (some a) (some b) ++ Str.ofString " ") none (some (-1)) = ⟨((x.cps.toList.drop a.toNat).take (b - a).toNat).toArray⟩ := by
  have e1 := eq_of_beq (slice_closes (x := x) (i := a) (j := b) ⟨h0, h, by simpa [Str.length] using hb⟩)
  rw [e1, sp_is]
  generalize (x.cps.toList.drop a.toNat).take (b - a).toNat = l
  have e2 : ((⟨l.toArray⟩ : Str) ++ (⟨#[32]⟩ : Str)) = ⟨(l ++ [32]).toArray⟩ := by
    show Str.append _ _ = _
    simp [Str.append]
  rw [e2]
  have hl : ((⟨(l ++ [32]).toArray⟩ : Str).length : Int) = l.length + 1 := by simp [Str.length]
  have e3 := eq_of_beq (slice_closes_to_neg (x := ⟨(l ++ [32]).toArray⟩) (j := -1) (k := l.length) (by omega) (by omega) (by omega))
  rw [e3]
  simp
theorem ch1_end {x : Str} {pos : Nat} {a b : Int} (ha : a = pos) (hb : b = if pos + 1 < x.length then (pos : Int) + 1 else x.length) (hp : pos < x.length) :
    Txt.slice (Txt.slice x (some a) (some b) ++ Str.ofString " ") none (some (-1)) = ch1 x pos := by
  subst ha
  have hb2 : b = (pos : Int) + 1 := by split at hb <;> omega
  subst hb2
  rw [slice_plus (by omega) (by omega) (by omega)]
  unfold ch1
  congr 3
  omega
theorem ch1_over {x : Str} {pos : Nat} (h : (x.length : Int) ≤ pos) : ch1 x pos = Str.ofString "" := by
  have e : Str.ofString "" = ⟨#[]⟩ := by decide +kernel
  rw [e]
  unfold ch1
  have : x.cps.toList.drop pos = [] := List.drop_of_length_le (by simp [Str.length] at h ⊢; omega)
  rw [this]; rfl
end Mine

local macro_rules | `(tactic| k_room) => `(tactic| ((try simp only [depth_under_make, depth_under_kw, depth_in1, depth_deeper, depth_caller, recursionLimit]); (try dsimp only); first | omega | decide))
local macro_rules | `(tactic| k_units) => `(tactic| ((try simp only [cLine, Around.deeper_units, Around.in1_units, units_under_make, Mine.units_kw]); (try dsimp only); first | omega | exact Nat.le_of_ble_eq_true rfl))
local macro_rules | `(tactic| k_all) => `(tactic| assumption)
local macro_rules | `(tactic| walk_at "subscriptTail Attribute") => `(tactic| (k_here; k_dflt (refine kba_turn (value' := PySem.Expr.Name (PySem.Str.ofString "_") ⟨0, 0, 0, 0⟩) (fun _ => rfl) ?_)))
local macro_rules | `(tactic| walk_at "subscriptTail BinOp") => `(tactic| (k_here; k_dflt (refine kba_turn (value' := PySem.Expr.Name (PySem.Str.ofString "_") ⟨0, 0, 0, 0⟩) (fun _ => rfl) ?_)))
local macro_rules | `(tactic| k_ne) => `(tactic| (refine neN ?_; (try dsimp only); first | with_reducible assumption | (with_reducible refine Ne.symm ?_; with_reducible assumption)))

section
namespace Mine
section
variable {w : World} {A₀ : Around} {base h₀ : Heap} {outer : List Env} {L : Addr} {m mg mb : Str → Option Value} {loose : List Str} {mean : ExcName → Option Value} {s : Shared} {Q E : Value → Shared → Prop} {p : Program}
  {hdl : Option Value} {d u : Nat} {gs : Option (List Code)} {rest : List (Addr × Obj)} {ns : List (Str × NameKind)} {ig ic : Bool} {mo : List (Str × Const)} {gl bi : Addr} {cs : List (Str × Addr)} {qn : Str} {fo : Option Addr} {cdv : Value}
theorem read1_end {h' : Heap} {io iod : Addr} {x y : Str} {pos : Nat} {q : Int} {kt : IoT} {t t' k : Tok}
  (hR : ∀ h' t t' k, Fr h₀ L h' m → News h₀ L h' ((io, instObj 587 iod) :: (iod, ioD w.params kt x (if pos < x.length then pos + 1 else pos) t') :: rest) → Q (.str (ch1 x pos) t) { s with heap := h', toks := k })
  (e1 : y = ch1 x pos) (e2 : q = ((if pos < x.length then pos + 1 else pos : Nat) : Int)) (F : Fr h₀ L h' m)
  (N : News h₀ L h' ((io, instObj 587 iod) :: (iod, dictOf [ent w.params "_StringIO__newline" kt.a (.str (Str.ofString "\n") kt.b), ent w.params "_StringIO__buf" kt.c (.str x kt.d), ent w.params "_StringIO__pos" kt.e (.int q t')] 3) :: rest)) :
  Q (.str y t) { s with heap := h', toks := k } := by
  subst e1 e2
  exact hR h' t t' k F N
theorem read1 {io iod : Addr} {x : Str} {pos : Nat} {kt : IoT} {t2 tk : Tok}
  (B : Below A₀ base outer h₀) (F : Fr h₀ L s.heap m) (X : (hd.heap_1 w.params).In h₀) (T : Top p loose mean mg mb h₀) (hdp : d < 980) (hun : u < 9800)
  (hio : @LT.lt Nat _ iod io) (hx : x.length ≤ 100000) (hrest : ∀ p ∈ rest, p.1 ≠ iod)
  (N : News h₀ L s.heap ((io, instObj 587 iod) :: (iod, ioD w.params kt x pos t2) :: rest))
  (hR : ∀ h' t t' k, Fr h₀ L h' m → News h₀ L h' ((io, instObj 587 iod) :: (iod, ioD w.params kt x (if pos < x.length then pos + 1 else pos) t') :: rest) → Q (.str (ch1 x pos) t) { s with heap := h', toks := k })
  : wpAny (model prog w) (ar hdl d (fenv ns ig ic mo gl cs qn fo cdv bi L :: outer) gs u) (call (.ref 533) [.ref io, .int 1 tk]) Q E s := by
  refine wpAny_call ?_
  k_enter
  k_steps
  · have e := ch1_over (x := x) (pos := pos) (by assumption)
    refine read1_end hR e.symm ?_ (by assumption) (by assumption)
    rw [if_neg (by omega)]
  · refine read1_end hR (ch1_end rfl ?_ (by omega)) ?_ (by assumption) (by assumption)
    · rw [if_pos (by omega)]
    · rw [if_pos (by omega)]; omega
  · refine read1_end hR (ch1_end rfl ?_ (by omega)) ?_ (by assumption) (by assumption)
    · rw [if_neg (by omega)]
    · rw [if_pos (by omega)]; omega
theorem read_c {io iod : Addr} {x : Str} {pos c : Nat} {r : List Nat} {kt : IoT} {t2 tk : Tok}
  (B : Below A₀ base outer h₀) (F : Fr h₀ L s.heap m) (X : (hd.heap_1 w.params).In h₀) (T : Top p loose mean mg mb h₀) (hdp : d < 980) (hun : u < 9800)
  (hio : @LT.lt Nat _ iod io) (hx : x.length ≤ 100000) (hrest : ∀ p ∈ rest, p.1 ≠ iod) (hc : x.cps.toList.drop pos = c :: r)
  (N : News h₀ L s.heap ((io, instObj 587 iod) :: (iod, ioD w.params kt x pos t2) :: rest))
  (hR : ∀ h' t t' k, Fr h₀ L h' m → News h₀ L h' ((io, instObj 587 iod) :: (iod, ioD w.params kt x (pos + 1) t') :: rest) → Q (.str ⟨#[c]⟩ t) { s with heap := h', toks := k })
  : wpAny (model prog w) (ar hdl d (fenv ns ig ic mo gl cs qn fo cdv bi L :: outer) gs u) (call (.ref 533) [.ref io, .int 1 tk]) Q E s := by
  have hl : pos < x.length := by
    have h := congrArg List.length hc
    simp [Str.length] at h ⊢
    omega
  have e : ch1 x pos = ⟨#[c]⟩ := by unfold ch1; rw [hc]; rfl
  refine read1 B F X T hdp hun hio hx hrest N fun h' t t' k F' N' => ?_
  rw [if_pos hl] at N'
  rw [e]
  exact hR h' t t' k F' N'
theorem read_e {io iod : Addr} {x : Str} {pos : Nat} {kt : IoT} {t2 tk : Tok}
  (B : Below A₀ base outer h₀) (F : Fr h₀ L s.heap m) (X : (hd.heap_1 w.params).In h₀) (T : Top p loose mean mg mb h₀) (hdp : d < 980) (hun : u < 9800)
  (hio : @LT.lt Nat _ iod io) (hx : x.length ≤ 100000) (hrest : ∀ p ∈ rest, p.1 ≠ iod) (hc : x.cps.toList.drop pos = [])
  (N : News h₀ L s.heap ((io, instObj 587 iod) :: (iod, ioD w.params kt x pos t2) :: rest))
  (hR : ∀ h' t t' k, Fr h₀ L h' m → News h₀ L h' ((io, instObj 587 iod) :: (iod, ioD w.params kt x pos t') :: rest) → Q (.str (Str.ofString "") t) { s with heap := h', toks := k })
  : wpAny (model prog w) (ar hdl d (fenv ns ig ic mo gl cs qn fo cdv bi L :: outer) gs u) (call (.ref 533) [.ref io, .int 1 tk]) Q E s := by
  have hl : ¬ pos < x.length := by
    have h := congrArg List.length hc
    simp [Str.length] at h ⊢
    omega
  have e := ch1_over (x := x) (pos := pos) (by omega)
  refine read1 B F X T hdp hun hio hx hrest N fun h' t t' k F' N' => ?_
  rw [if_neg hl] at N'
  rw [e]
  exact hR h' t t' k F' N'
end
end Mine

end
section
namespace Mine
section
variable {w : World} {A : Around} {s : Shared} {R : Result → Shared → Prop}
theorem io_new (X : (hd.heap_1 w.params).In s.heap) (hq : R (.ok (.ret (.ref (s.heap.objs.size + 1)))) { s with heap := (s.heap.push emptyDict).push (instObj 587 s.heap.objs.size) }) :
    codeAny (model prog w) A (.call (.builtin "object.__new__") ⟨[.ref 587], []⟩) R s := by
  obtain ⟨h, g, d, t, os⟩ := s
  have hC := X 587 _ (by k_is)
  have F := PySem.F.objNew
  have here : Looks (model prog w) h (Bind.madeHere "object.__new__" (.ref 587)) () := Looks.of_peek X (by kernel_rfl)
  have self : Looks (model prog w) h (isSubtype (.ref 587) (.ref 587)) true := looks_subIn X (by k_is)
  have top : Looks (model prog w) h (isSubtype (.ref 587) (.type "object")) true := looks_subIn X (by k_is)
  have typ : Looks (model prog w) h (isInstance (.ref 587) (.type "type")) true := looks_instIn X (by k_is)
  have chk : Looks (model prog w) h (checkBuiltinCall "object.__new__" ⟨[.ref 587], []⟩) () := Looks.of_peek X (by kernel_rfl)
  refine codeAny_call_builtin_code (Code.quiet_builtin _ F.quiet) (chk.here ?_)
  refine codeAny_builtin F.entry ?_
  unfold Builtin.«object.__new__»
  have fin : ∀ A', wpAny (model prog w) A' (do
      let d ← if typeHasDict (.ref 587) then some <$> alloc { cls := .type "dict", data := .dict #[] } else pure none
      ret (← newObj (.ref 587) .plain d)) (fun fin s' => match fin with | .done f => R (.ok f) s' | .again c' => c'.quiet = true ∧ codeAny (model prog w) A c' R s') (fun e s' => R (.error e) s') ⟨h, g, d, t, os⟩ := by
    intro A'
    show wpAny _ _ ((alloc emptyDict >>= fun x => pure (some x)) >>= _) _ _ _
    refine wpAny_bind (wpAny_bind (wpAny_alloc (wpAny_pure (wpAny_bind ?_))))
    show wpAny _ _ (newObjAsIs _ _ _) _ _ _
    unfold newObjAsIs classHasDel
    refine wpAny_bind (wpAny_alloc (wpAny_bind (wpAny_bind (wpAny_load (Heap.get?_push_of_some _ (Heap.get?_push_of_some _ hC)) (wpAny_pure ?_)))))
    refine wpAny_pure (wpAny_pure ?_)
    show R _ _
    rw [Heap.size_push]
    exact hq
  repeat (first | simp only [Bool.false_eq_true, if_false] | exact fin _ | lk)
  all_goals trace_state
end
section
variable {w : World} {A : Around} {E : Value → Shared → Prop} {s : Shared} {h₀ : Heap} {L : Addr} {m : Str → Option Value} {news : List (Addr × Obj)}
theorem io_new_w {Q : Value → Shared → Prop} (F : Fr h₀ L s.heap m) (X : (hd.heap_1 w.params).In h₀) (N : News h₀ L s.heap news)
    (h : ∀ x dx h', Fr h₀ L h' m → News h₀ L h' ((x, instObj 587 dx) :: (dx, dictOf [] 0) :: news) → (∀ p ∈ news, p.1 < dx) → dx < x → Q (.ref x) { s with heap := h' }) :
    wpAny (model prog w) A (call (.builtin "object.__new__") [.ref 587]) Q E s := by
  refine wpAny_call (io_new (X.keeps F.keep) ?_)
  have := (N.push F emptyDict).push (F.push _) (instObj 587 s.heap.objs.size)
  rw [Heap.size_push] at this
  exact h _ s.heap.objs.size _ ((F.push _).push _) this (fun p hp => Heap.lt_size (N p hp).1) (Nat.lt_succ_self _)
end
end Mine
local macro_rules | `(tactic| walk_at "call builtin:object.__new__") => `(tactic| (k_here; k_dflt (refine' Mine.io_new_w ?k1 ?k2 ?k3 ?_; (case k1 => k_asm); (case k2 => k_asm); (case k3 => k_asm); k_whole); intro x' d' h' F' N' l1 l2; (try k_lt l1); (try k_lt2 l2); (try k_sweep)))
namespace Mine
section
variable {w : World} {A₀ : Around} {base h₀ : Heap} {outer : List Env} {L : Addr} {m mg mb : Str → Option Value} {loose : List Str} {mean : ExcName → Option Value} {s : Shared} {Q E : Value → Shared → Prop} {p : Program}
  {hdl : Option Value} {d u : Nat} {gs : Option (List Code)} {rest : List (Addr × Obj)} {ns : List (Str × NameKind)} {ig ic : Bool} {mo : List (Str × Const)} {gl bi : Addr} {cs : List (Str × Addr)} {qn : Str} {fo : Option Addr} {cdv : Value}
theorem news_drop2 {h₀ h : Heap} {L : Addr} {a b c d : Addr × Obj} {rest : List (Addr × Obj)} (N : News h₀ L h (a :: b :: c :: d :: rest)) : News h₀ L h (a :: b :: rest) := by
  intro q hq
  refine N q ?_
  rcases List.mem_cons.mp hq with rfl | hq
  · exact .head _
  · rcases List.mem_cons.mp hq with rfl | hq
    · exact .tail _ (.head _)
    · exact .tail _ (.tail _ (.tail _ (.tail _ hq)))
theorem io_make {x : Str} {tk : Tok}
  (B : Below A₀ base outer h₀) (F : Fr h₀ L s.heap m) (X : (hd.heap_1 w.params).In h₀) (T : Top p loose mean mg mb h₀) (hdp : d < 980) (hun : u < 9800)
  (hx : x.length ≤ 100000)
  (N : News h₀ L s.heap rest)
  (hQ : ∀ io iod h' kt t k, Fr h₀ L h' m → News h₀ L h' ((io, instObj 587 iod) :: (iod, ioD w.params kt x 0 t) :: rest) → AllLt iod rest → @LT.lt Nat _ iod io → Q (.ref io) { s with heap := h', toks := k })
  : wpAny (model prog w) (ar hdl d (fenv ns ig ic mo gl cs qn fo cdv bi L :: outer) gs u) (call (.ref 587) [.str x tk]) Q E s := by
  have XS := X.keeps F.keep
  have hC := XS 587 _ (by k_is)
  have typ : Looks (model prog w) s.heap (isInstance (.ref 587) (.type "type")) true := looks_instIn XS (by k_is)
  have cl : Looks (model prog w) s.heap (specialOf (.ref 587) "__call__") (some (.builtin "type.__call__")) := looks_specialIn XS (by k_is)
  have made : Looks (model prog w) s.heap (Bind.madeBy (.ref 587)) none := Looks.of_peek XS (by kernel_rfl)
  have mro : Looks (model prog w) s.heap (mroOf (.ref 587)) [.ref 587, .ref 110, .ref 83, .type "object"] := Looks.of_peek XS (by kernel_rfl)
  refine wpAny_call (codeAny_of_tree ?_)
  show wpAny _ _ (callAny (.ref 587) _) _ _ _
  refine nd_load hC ?_
  show wpAny _ _ (callAny.viaDunder (.ref 587) _) _ _ _
  unfold callAny.viaDunder
  refine wpAny_bind (cl.here ?_)
  dsimp only
  rw [tc_bind]
  refine wpAny_bind (wpAny_pure (wpAny_bind (wpAny_pure ?_)))
  refine wpAny_pure (a := Fin.again (.call (.builtin "type.__call__") ⟨[.ref 587, .str x tk], []⟩)) (And.intro rfl ?_)
  refine codeAny_call_builtin_at (Code.quiet_builtin _ (by decide +kernel)) entry_typeCall (check_slot tc_kind tc_split typ (tc_args _ _ _) ?_)
  unfold Builtin.«type.__call__»
  refine wpAny_bind (mro.here ?_)
  simp only [List.isEmpty_cons, Bool.false_eq_true, if_false]
  refine wpAny_bind (made.here ?_)
  dsimp only
  refine wpAny_bind ?_
  walk1
  refine wpAny_bind (wpAny_holding ?_)
  k_steps
  rename Fr h₀ L _ m => kF
  rename News h₀ L _ _ => kN
  rename (hd.heap_1 w.params).In h₀ => _X2
  have XS2 := X.keeps kF.keep
  have I := InstAt.of_news (C := 587) kN (List.Mem.head _) (List.Mem.tail _ (List.Mem.head _))
  have sub : Looks (model prog w) _ (isSubtype (.ref 587) (.ref 587)) true := looks_subIn XS2 (by k_is)
  refine wpAny_bind ?_
  unfold isInstance
  refine wpAny_bind (I.type.here (sub.here ?_))
  simp only [Bool.not_true, Bool.false_eq_true, if_false]
  refine wpAny_bind (wpAny_holding (special_fn XS2 I (by k_is) (by k_is) ?_))
  k_steps
  rw [if_neg (by decide)]
  refine wpAny_pure ?_
  rename News h₀ L _ _ => kN2
  rename Fr h₀ L _ m => kF2
  rename _ ∧ _ ∧ _ => hl
  exact hQ _ _ _ ⟨_, _, _, _, _⟩ _ _ kF2 (news_drop2 kN2) hl.2.2 (by assumption)
end
end Mine

end
section
namespace Mine
theorem allLt_ne {d : Addr} : ∀ {l : List (Addr × Obj)}, AllLt d l → ∀ p ∈ l, p.1 ≠ d
  | [], _, _, hp => nomatch hp
  | _ :: _, h, _, .head _ => Nat.ne_of_lt h.1
  | _ :: _, h, _, .tail _ hp => allLt_ne h.2 _ hp
section
variable {w : World} {A₀ : Around} {base h₀ : Heap} {outer : List Env} {L : Addr} {m mg mb : Str → Option Value} {loose : List Str} {mean : ExcName → Option Value} {s : Shared} {Q E : Value → Shared → Prop} {p : Program}
  {hdl : Option Value} {d u : Nat} {gs : Option (List Code)} {rest : List (Addr × Obj)} {ns : List (Str × NameKind)} {ig ic : Bool} {mo : List (Str × Const)} {gl bi : Addr} {cs : List (Str × Addr)} {qn : Str} {fo : Option Addr} {cdv : Value}
def WC (b : Bool) : Str := if b then Str.ofString "abcdfeghijklmnopqrstuvwxyzABCDEFGHIJKLMNOPQRSTUVWXYZ0123456789_ßàáâãäåæçèéêëìíîïðñòóôõöøùúûüýþÿÀÁÂÃÄÅÆÇÈÉÊËÌÍÎÏÐÑÒÓÔÕÖØÙÚÛÜÝÞ" else Str.ofString "abcdfeghijklmnopqrstuvwxyzABCDEFGHIJKLMNOPQRSTUVWXYZ0123456789_"
def EV (b : Bool) (v : Value) : Prop := if b then v = .none else ∃ t, v = .str (Str.ofString "") t
theorem ctor_ord {h : Heap} {a b c d e f : Addr × Obj} {rest : List (Addr × Obj)} (N : News h₀ L h (f :: c :: a :: b :: d :: e :: rest)) : News h₀ L h (a :: b :: c :: d :: e :: f :: rest) := by
  intro q hq
  refine N q ?_
  simp only [List.mem_cons] at hq ⊢
  rcases hq with h | h | h | h | h | h | h <;> simp [h]
end
end Mine

end
section
namespace Mine
/-! the plain reading of read_token for texts without quotes and backslashes, no punctuation -/
inductive LSt where | fin | white | word
deriving DecidableEq
def wsS : Str := Str.ofString " \t\x0d\n"
def isWs (c : Nat) : Bool := (Str.ofString " \t\x0d\n").cps.toList.contains c
def isCm (c : Nat) : Bool := (Str.ofString "#").cps.toList.contains c
def Plain (c : Nat) : Prop := (Str.ofString "'\"").cps.toList.contains c = false ∧ (Str.ofString "\\").cps.toList.contains c = false
def dropLine : List Nat → List Nat
  | [] => []
  | c :: r => if c == 10 then r else dropLine r
theorem dropLine_le : ∀ l : List Nat, (dropLine l).length ≤ l.length
  | [] => Nat.le_refl _
  | c :: r => by
    unfold dropLine
    split
    · simp
    · have := dropLine_le r; simp; omega
theorem dropLine_at : ∀ (l : List Nat) (k : Nat), l[k]? = some 10 → (∀ j : Nat, j < k → l[j]? ≠ some 10) → dropLine l = l.drop (k + 1)
  | [], k, h, _ => by simp at h
  | c :: r, 0, h, _ => by
    have : c = 10 := by simpa using h
    subst this
    simp [dropLine]
  | c :: r, k + 1, h, hn => by
    have hc : (c == 10) = false := by
      have := hn 0 (by omega)
      simpa using this
    unfold dropLine
    rw [hc]
    simp only [Bool.false_eq_true, if_false]
    rw [dropLine_at r k (by simpa using h) (fun j hj => by have := hn (j + 1) (by omega); simpa using this)]
    simp
theorem dropLine_none : ∀ (l : List Nat), (∀ j : Nat, l[j]? ≠ some 10) → dropLine l = []
  | [], _ => rfl
  | c :: r, hn => by
    have hc : (c == 10) = false := by
      have := hn 0
      simpa using this
    unfold dropLine
    rw [hc]
    simp only [Bool.false_eq_true, if_false]
    exact dropLine_none r (fun j => by have := hn (j + 1); simpa using this)
structure RtR where
  tok : List Nat
  st : LSt
  rem : List Nat
  ln : Int
  over : Option Nat
def rt (b : Bool) (W : Nat → Bool) : LSt → List Nat → List Nat → Int → RtR
  | .fin, _, rem, ln => ⟨[], .fin, rem, ln, none⟩
  | .white, tok, [], ln => ⟨tok, .fin, [], ln, none⟩
  | .white, tok, c :: r, ln =>
    if isWs c then rt b W .white tok r (if c == 10 then ln + 1 else ln)
    else if isCm c then rt b W .white tok (dropLine r) (ln + 1)
    else if W c then rt b W .word [c] r ln
    else ⟨[c], .white, r, ln, none⟩
  | .word, tok, [], ln => ⟨tok, .fin, [], ln, none⟩
  | .word, tok, c :: r, ln =>
    if isWs c then ⟨tok, .white, r, if c == 10 then ln + 1 else ln, none⟩
    else if isCm c then (if b then ⟨tok, .white, dropLine r, ln + 1, none⟩ else rt b W .word tok (dropLine r) (ln + 1))
    else if W c then rt b W .word (tok ++ [c]) r ln
    else ⟨tok, .white, r, ln, some c⟩
termination_by _ _ rem _ => rem.length
decreasing_by
  all_goals simp_wf
  all_goals first | omega | (have := dropLine_le r; omega)
def SV : LSt → Value → Prop
  | .fin, v => v = .none
  | .white, v => ∃ t, v = .str (Str.ofString " ") t
  | .word, v => ∃ t, v = .str (Str.ofString "a") t
def S (l : List Nat) : Str := ⟨l.toArray⟩
theorem S_nil : Str.ofString "" = S [] := by decide +kernel
structure LS where
  sv : Value
  ln : Int
  tl : Tok
  tok : Str
  tt : Tok
  pos : Nat
  tp : Tok
  pbs : List Value
  pn : Int
def OV : Option Nat → List Value → List Value → Prop
  | none, a, b => a = b
  | some c, a, b => ∃ t, a = .str ⟨#[c]⟩ t :: b
def RV (b : Bool) (tok : List Nat) (v : Value) : Prop := if b && tok.isEmpty then v = .none else ∃ t, v = .str (S tok) t
theorem drop_next {l : List Nat} {p c : Nat} {r : List Nat} (h : l.drop p = c :: r) : l.drop (p + 1) = r ∧ p + 1 ≤ l.length := by
  have h1 : l.drop (p + 1) = (l.drop p).drop 1 := by rw [List.drop_drop]
  have h2 := congrArg List.length h
  simp at h2
  refine ⟨by rw [h1, h]; rfl, by omega⟩
theorem dropLine_sub : ∀ (l : List Nat), ∀ c ∈ dropLine l, c ∈ l
  | [], _, h => h
  | a :: r, c, h => by
    unfold dropLine at h
    split at h
    · exact .tail _ h
    · exact .tail _ (dropLine_sub r c h)
end Mine

end
section
namespace Mine
section
variable {prog' : Program} {w : World} {A : Around} {E : Value → Shared → Prop} {s : Shared} {Q : Value → Shared → Prop} {c k : Nat} {t u : Tok} {y : Str} {b : Bool}
theorem ite_t {A B : Prop} (h : A) : if true = true then A else B := h
theorem ite_f {A B : Prop} (h : B) : if false = true then A else B := h
theorem in_ch (e : y.cps.toList.contains c = b) (h : Q (.bool b) s) : wpAny (model prog' w) A (compareOp .In (.str ⟨#[c]⟩ t) (.str y u)) Q E s := by
  refine P.in_str ?_
  rw [StrLaws.found_one]
  have : decide (c ∈ y.cps.toList) = y.cps.toList.contains c := by simp
  rw [this, e]; exact h
theorem notin_ch (e : y.cps.toList.contains c = b) (h : Q (.bool (!b)) s) : wpAny (model prog' w) A (compareOp .NotIn (.str ⟨#[c]⟩ t) (.str y u)) Q E s := by
  refine P.notIn_str ?_
  rw [StrLaws.found_one]
  have : decide (c ∈ y.cps.toList) = y.cps.toList.contains c := by simp
  rw [this, e]; exact h
theorem eq_ch (hy : y = ⟨#[k]⟩) (e : (c == k) = b) (h : Q (.bool b) s) : wpAny (model prog' w) A (compareOp .Eq (.str ⟨#[c]⟩ t) (.str y u)) Q E s := by
  refine P.eq_str ?_
  have : ((⟨#[c]⟩ : Str).cps.toList == y.cps.toList) = b := by
    subst hy
    rw [← e]
    simp
  rw [this]; exact h
theorem eq_nl (e : (c == 10) = b) (h : Q (.bool b) s) : wpAny (model prog' w) A (compareOp .Eq (.str ⟨#[c]⟩ t) (.str (Str.ofString "\n") u)) Q E s := eq_ch (k := 10) (by decide +kernel) e h
theorem truthy_ch {Q : Bool → Shared → Prop} (h : Q true { s with toks := s.toks + 1 + 1 }) : wpAny (model prog' w) A (truthy (.str ⟨#[c]⟩ t)) Q E s :=
  P.truthy_str (by show ¬ ((1 : Nat) : Int) ≥ 2 ^ 63; decide) (by exact h)
theorem in_lit_t {x y : Str} (e : (Builtin.Str.occurrences y x 0 y.length 1).isEmpty = false) (h : Q (.bool true) s) : wpAny (model prog' w) A (compareOp .In (.str x t) (.str y u)) Q E s :=
  P.in_str (by rw [e]; exact h)
theorem in_lit_f {x y : Str} (e : (Builtin.Str.occurrences y x 0 y.length 1).isEmpty = true) (h : Q (.bool false) s) : wpAny (model prog' w) A (compareOp .In (.str x t) (.str y u)) Q E s :=
  P.in_str (by rw [e]; exact h)
theorem add_S {l : List Nat} (hl : l.length ≤ 100000) (h : ∀ t' k, Q (.str (S (l ++ [c])) t') { s with toks := k }) : wpAny (model prog' w) A (inplaceOp .Add (.str (S l) t) (.str ⟨#[c]⟩ u)) Q E s := by
  refine PyProof.Rows.iadd_str (fun t' k => ?_) ?_
  · have e : S l ++ (⟨#[c]⟩ : Str) = S (l ++ [c]) := by
      show Str.append _ _ = _
      simp [Str.append, S]
    rw [e]; exact h t' k
  · simp only [S, Str.length, List.size_toArray, sizeLine]
    have : [c].length = 1 := rfl
    omega
theorem truthy_S {l : List Nat} {Q : Bool → Shared → Prop} (e : l.isEmpty = b) (hl : l.length ≤ 100000) (h : Q (!b) { s with toks := s.toks + 1 + 1 }) : wpAny (model prog' w) A (truthy (.str (S l) t)) Q E s := by
  refine P.truthy_str ?_ ?_
  · simp only [S, Str.length, List.size_toArray]; omega
  · subst e
    have : (((S l).length : Int) != 0) = !l.isEmpty := by
      simp only [S, Str.length, List.size_toArray]
      cases l with
      | nil => rfl
      | cons a r => simp; omega
    rw [this]; exact h
theorem eq_S {l : List Nat} (e : l.isEmpty = b) (h : Q (.bool b) s) : wpAny (model prog' w) A (compareOp .Eq (.str (S l) t) (.str (Str.ofString "") u)) Q E s := by
  refine P.eq_str ?_
  have : ((S l).cps.toList == (Str.ofString "").cps.toList) = b := by
    subst e
    rw [S_nil]
    cases l <;> simp [S]
  rw [this]; exact h
end
end Mine

end
section
namespace Mine
theorem news_tl {h₀ h : Heap} {L : Addr} {a : Addr × Obj} {l : List (Addr × Obj)} (N : News h₀ L h (a :: l)) : News h₀ L h l := fun q hq => N q (.tail _ hq)
section
variable {prog' : Program} {w : World} {A : Around} {E : Value → Shared → Prop} {Q : Flow → Shared → Prop} {s : Shared} {env : Env} {h₀ : Heap} {L : Addr}
def WlAt {σ : Type} (h₀ : Heap) (L : Addr) (s : Shared) (Led : σ → List (Addr × Obj)) (ps : σ → List (Str × Value)) (stored : List Str) (m₀ : Str → Option Value) (P : σ → Prop) (s₂ : Shared) : Prop :=
  ∃ (c' : σ) (h' : Heap) (tk : Nat) (m' : Str → Option Value) (news' : List (Addr × Obj)), s₂ = { s with heap := h', toks := tk } ∧ Fr h₀ L h' m' ∧ News h₀ L h' news' ∧ (∀ p ∈ Led c', p ∈ news') ∧ (∀ p ∈ ps c', m' p.1 = some p.2) ∧ (∀ z, (∀ p ∈ ps c', z ≠ p.1) → stored.contains z = false → m' z = m₀ z) ∧ P c'
def WlPost {σ : Type} (h₀ : Heap) (L : Addr) (s : Shared) (Led : σ → List (Addr × Obj)) (ps : σ → List (Str × Value)) (stored : List Str) (m₀ : Str → Option Value) (P Bk : σ → Prop) (μ : σ → Nat) (n : Nat) (f : Flow) (s₂ : Shared) : Prop :=
  match f with
  | .ret _ => False
  | .brk => WlAt h₀ L s Led ps stored m₀ Bk s₂
  | _ => WlAt h₀ L s Led ps stored m₀ (fun c => P c ∧ μ c < n) s₂
theorem wl_at {σ : Type} {Led : σ → List (Addr × Obj)} {ps : σ → List (Str × Value)} {stored : List Str} {m₀ m' : Str → Option Value} {P : σ → Prop} {h' : Heap} {tk : Nat} {news' : List (Addr × Obj)} (c' : σ)
    (F : Fr h₀ L h' m') (N : News h₀ L h' news') (hn : ∀ p ∈ Led c', p ∈ news') (hk : ∀ p ∈ ps c', m' p.1 = some p.2) (hr : ∀ z, (∀ p ∈ ps c', z ≠ p.1) → stored.contains z = false → m' z = m₀ z) (hp : P c') :
    WlAt h₀ L s Led ps stored m₀ P { s with heap := h', toks := tk } := ⟨c', h', tk, m', news', rfl, F, N, hn, hk, hr, hp⟩
theorem wl_while {σ : Type} {test : Expr} {body : List Stmt} {pos : Pos} {m₀ : Str → Option Value} (Led : σ → List (Addr × Obj)) (ps : σ → List (Str × Value)) (stored : List Str) (P Bk : σ → Prop) (μ : σ → Nat) (c₀ : σ)
    (F : Fr h₀ L s.heap m₀) (N : News h₀ L s.heap (Led c₀)) (hk : ∀ p ∈ ps c₀, m₀ p.1 = some p.2) (hp : P c₀)
    (turn : ∀ (c : σ) (u : Str → Option Value) h tk, P c → Fr h₀ L h (kstB (fun z => if stored.contains z then u z else m₀ z) (ps c)) → News h₀ L h (Led c) →
      wpAny (model prog' w) A (isTrue test env (eval test env)) (fun b s₂ =>
        if b = true then wpAny (model prog' w) A (execs body env) (WlPost h₀ L s Led ps stored m₀ P Bk μ (μ c)) (fun _ _ => False) s₂ else False) (fun _ _ => False) { s with heap := h, toks := tk })
    (after : ∀ (c : σ) (u : Str → Option Value) h tk, Bk c → Fr h₀ L h (kstB (fun z => if stored.contains z then u z else m₀ z) (ps c)) → News h₀ L h (Led c) → Q .next { s with heap := h, toks := tk }) :
    wpAny (model prog' w) A (exec (.While test body [] pos) env) Q E s := by
  refine wpAny_mono (Q := fun f s' => f = .next ∧ WlAt h₀ L s Led ps stored m₀ Bk s') (E := fun _ _ => False) ?_ (fun f s' hh => ?_) (fun _ _ hh => hh.elim)
  · refine While_inv2 (fun n m nx => ∃ c : σ, nx = Led c ∧ μ c = n ∧ (∀ p ∈ ps c, m p.1 = some p.2) ∧ (∀ z, (∀ p ∈ ps c, z ≠ p.1) → stored.contains z = false → m z = m₀ z) ∧ P c) F N ⟨c₀, rfl, rfl, hk, fun _ _ _ => rfl, hp⟩ ?_ PassesOwn.never
    rintro n m₁ nx h tk F₁ N₁ ⟨c, hnx, hsz, h1, h2, hp'⟩
    rw [hnx] at N₁
    rw [← hsz]
    refine wpAny_mono (turn c m₁ h tk hp' (ksw_fr h1 h2 F₁) N₁) (fun b s₂ p => ?_) fun _ _ x => x
    cases b with
    | false => simp at p
    | true =>
      simp only [if_true] at p ⊢
      refine wpAny_mono p (fun f s₃ q => ?_) fun _ _ x => x
      cases f with
      | ret v => exact q.elim
      | brk => exact ⟨rfl, q⟩
      | next =>
        obtain ⟨c', h', tk', m', news', rfl, F', N', hn, hk9, hr9, hp9, hm9⟩ := q
        exact ⟨h', tk', m', Led c', μ c', rfl, F', fun p hp => N' p (hn p hp), hm9, c', rfl, rfl, hk9, hr9, hp9⟩
      | cont =>
        obtain ⟨c', h', tk', m', news', rfl, F', N', hn, hk9, hr9, hp9, hm9⟩ := q
        exact ⟨h', tk', m', Led c', μ c', rfl, F', fun p hp => N' p (hn p hp), hm9, c', rfl, rfl, hk9, hr9, hp9⟩
  · obtain ⟨rfl, c', h', tk', m', news', rfl, F', N', hn, hk9, hr9, hb⟩ := hh
    exact after c' m' h' tk' hb (ksw_fr hk9 hr9 F') fun p hp => N' p (hn p hp)
end
end Mine

end
section
namespace Mine
def GV (ev : Value) (tok : List Nat) (v : Value) : Prop := if tok.isEmpty then v = ev else ∃ t, v = .str (S tok) t
theorem eq_end {w : World} {A : Around} {E : Value → Shared → Prop} {s : Shared} {Q : Value → Shared → Prop} {b : Bool} {tok : List Nat} {v ev : Value} (hR : RV b tok v) (hE : EV b ev) (h : Q (.bool tok.isEmpty) s) : wpAny (model prog w) A (compareOp .Eq v ev) Q E s := by
  unfold RV at hR
  unfold EV at hE
  cases b with
  | true =>
    simp only [if_true] at hE
    subst hE
    cases ht : tok.isEmpty with
    | true =>
      rw [ht] at hR h
      simp only [Bool.and_true, if_true] at hR
      subst hR
      exact PySem.EqNone.eq_none_none h
    | false =>
      rw [ht] at hR h
      simp only [Bool.and_false, Bool.false_eq_true, if_false] at hR
      obtain ⟨t, rfl⟩ := hR
      exact PySem.EqNone.eq_str_none h
  | false =>
    simp only [Bool.false_eq_true, if_false, Bool.false_and] at hE hR
    obtain ⟨t, rfl⟩ := hR
    obtain ⟨t, rfl⟩ := hE
    exact eq_S rfl h
theorem while_once {w : World} {A : Around} {E : Value → Shared → Prop} {Q : Flow → Shared → Prop} {s : Shared} {env : Env} {h₀ : Heap} {L : Addr} {test : Expr} {body : List Stmt} {pos : Pos} {m : Str → Option Value} {news : List (Addr × Obj)}
    (F : Fr h₀ L s.heap m) (N : News h₀ L s.heap news)
    (turn : ∀ h₁ tk₁, Fr h₀ L h₁ m → News h₀ L h₁ news →
      wpAny (model prog w) A (isTrue test env (eval test env)) (fun b s₂ =>
        if b = true then wpAny (model prog w) A (execs body env) (WhileStep2 h₀ L s (fun n m₁ nx => n = 0 ∧ m₁ = m ∧ nx = news) Q 0) E s₂ else Q .next s₂) E { s with heap := h₁, toks := tk₁ })
    (hE : PassesOwn (model prog w) A env E := by passes_own) :
    wpAny (model prog w) A (exec (.While test body [] pos) env) Q E s :=
  While_inv2 (n₀ := 0) (fun n m₁ nx => n = 0 ∧ m₁ = m ∧ nx = news) F N ⟨rfl, rfl, rfl⟩ (fun n m₁ nx h tk F₁ N₁ e => by
    obtain ⟨rfl, rfl, rfl⟩ := e
    exact turn h tk F₁ N₁) hE
theorem ev_handed {b : Bool} {ev : Value} (h : EV b ev) : handedIn ev = true := by
  unfold EV at h
  cases b with
  | true => simp only [if_true] at h; subst h; rfl
  | false => simp only [Bool.false_eq_true, if_false] at h; obtain ⟨t, rfl⟩ := h; rfl
theorem rv_gv {b : Bool} {tok : List Nat} {v ev : Value} (hR : RV b tok v) (he : tok.isEmpty = false) : GV ev tok v := by
  unfold RV at hR
  unfold GV
  rw [he] at hR ⊢
  simpa using hR
end Mine
local macro_rules | `(tactic| k_handed) => `(tactic| with_reducible assumption)
local macro_rules | `(tactic| walk_at "getAttr ref") => `(tactic| (k_here; k_dflt (refine' get_own ?k1 ?k2 ?k3 ?k4 ?k5 ?k6 ?k7 ?k8 ?k9 ?_; (case k1 => k_asm); (case k2 => k_asm); (case k3 => k_inst); (case k4 => k_is); (case k5 => k_is); (case k6 => k_is); (case k7 => k_is); (case k8 => k_get); (case k9 => k_handed); k_whole)))
local macro_rules | `(tactic| walk_at "callWith ref") => `(tactic| (k_here; first
  | ((with_reducible show wpAny _ _ (callWith _ _ _ (backTo _ (starEach [] _)) []) _ _ _); row_timed "R1c" (refine' callWith_K0 ?k1 ?k2 ?_); row_timed "R1k1" (case k1 => exact Frag.In.keeps (by with_reducible assumption) (Fr.keep (by assumption))); row_timed "R1k2" (case k2 => k_is); k_whole; (try dsimp only [List.nil_append, List.cons_append, List.append_nil]))
  | (row_timed "R2c" (refine' callWith_K ?k1 ?k2 ?_); row_timed "R2k1" (case k1 => k_asm); row_timed "R2k2" (case k2 => k_is); k_whole)))
local macro_rules | `(tactic| walk_at "execs nil") => `(tactic| (with_reducible refine wpAny_execs_nil ?_))
local macro_rules | `(tactic| walk_at "exec If") => `(tactic| ((try k_fold); with_reducible refine wpAny_If ?_))
local macro_rules | `(tactic| walk_at "ite") => `(tactic| first | with_reducible refine Mine.ite_t ?_ | with_reducible refine Mine.ite_f ?_)
local macro_rules | `(tactic| walk_at "execs cons") => `(tactic| ((try dsimp only); with_reducible refine wpAny_execs_cons ?_))
local macro_rules | `(tactic| walk_at "getMethod ref") => `(tactic| (k_here; (with_reducible show wpAny _ _ (getMethod (Value.ref _) (Str.ofString "appendleft") _) _ _ _); k_dflt (refine' Mine.dq_method Mine.dq_slot_appendleft Mine.dq_type_appendleft ?N ?m ?_; (case N => k_asm); (case m => k_mem); k_whole)))
local macro_rules | `(tactic| walk_at "getMethod ref") => `(tactic| (k_here; (with_reducible show wpAny _ _ (getMethod (Value.ref _) (Str.ofString "popleft") _) _ _ _); k_dflt (refine' Mine.dq_method Mine.dq_slot_popleft Mine.dq_type_popleft ?N ?m ?_; (case N => k_asm); (case m => k_mem); k_whole)))
local macro_rules | `(tactic| walk_at "call builtin:collections.deque.appendleft") => `(tactic| (k_here; k_dflt (refine' Mine.dq_appendleft ?F ?N ?U ?sz ?_; (case F => k_asm); (case N => k_asm); (case U => k_upd); (case sz => assumption); k_whole); intro h' F' N'; (try dsimp only); (try k_sweep)))
local macro_rules | `(tactic| walk_at "call builtin:collections.deque.popleft") => `(tactic| (k_here; k_dflt (refine' Mine.dq_popleft ?F ?N ?U ?sz ?_; (case F => k_asm); (case N => k_asm); (case U => k_upd); (case sz => assumption); k_whole); intro h' F' N'; (try dsimp only); (try k_sweep)))
local macro_rules | `(tactic| walk_at "truthy ref") => `(tactic| (k_here; k_dflt (refine' Mine.dq_truthy ?N ?m ?sz ?_; (case N => k_asm); (case m => k_mem); (case sz => first | assumption | (simp only [List.length_cons, List.length_nil]; omega)); k_whole); (try dsimp only [List.isEmpty_cons, List.isEmpty_nil, Bool.not_true, Bool.not_false])))
namespace Mine
section
variable {w : World} {A₀ : Around} {base h₀ : Heap} {outer : List Env} {L : Addr} {m mg mb : Str → Option Value} {loose : List Str} {mean : ExcName → Option Value} {s : Shared} {Q E : Value → Shared → Prop} {p : Program}
  {hdl : Option Value} {d u : Nat} {gs : Option (List Code)} {rest : List (Addr × Obj)} {ns : List (Str × NameKind)} {ig ic : Bool} {mo : List (Str × Const)} {gl bi : Addr} {cs : List (Str × Addr)} {qn : Str} {fo : Option Addr} {cdv : Value}
theorem push_tok {lx dx io pb fs : Addr} {wc cm tkx : Str} {lt1 : LxT} {b sp : Bool} {ev f sv tv : Value} {ln : Int} {tl tt : Tok} {pbs : List Value} {pn : Int}
  (B : Below A₀ base outer h₀) (F : Fr h₀ L s.heap m) (X : (hd.heap_1 w.params).In h₀) (T : Top p loose mean mg mb h₀) (hdp : d < 900) (hun : u < 9000)
  (h1 : @LT.lt Nat _ dx lx) (h5 : @LT.lt Nat _ lx pb) (hr3 : ∀ p ∈ rest, p.1 ≠ pb) (hpb : pbs.length ≤ 900000)
  (N : News h₀ L s.heap ((pb, dqO pbs pn) :: (lx, instObj 722 dx) :: (dx, lexD w.params lt1 b sp ev cm wc pb fs io f sv ln tl tkx tt) :: rest))
  (hQ : ∀ h' k, Fr h₀ L h' m → News h₀ L h' ((pb, dqO (tv :: pbs) (pn + 1)) :: (lx, instObj 722 dx) :: (dx, lexD w.params lt1 b sp ev cm wc pb fs io f sv ln tl tkx tt) :: rest) → Q .none { s with heap := h', toks := k })
  : wpAny (model prog w) (ar hdl d (fenv ns ig ic mo gl cs qn fo cdv bi L :: outer) gs u) (call (.ref 661) [.ref lx, tv]) Q E s := by
  refine wpAny_call ?_
  k_enter
  k_steps
  exact hQ _ _ (by assumption) (by assumption)
theorem get_tok1 {lx dx io pb fs : Addr} {wc cm tkx : Str} {lt1 : LxT} {b sp : Bool} {ev f sv tv : Value} {ln : Int} {tl tt : Tok} {pbs : List Value} {pn : Int}
  (B : Below A₀ base outer h₀) (F : Fr h₀ L s.heap m) (X : (hd.heap_1 w.params).In h₀) (T : Top p loose mean mg mb h₀) (hdp : d < 900) (hun : u < 9000)
  (h1 : @LT.lt Nat _ dx lx) (h5 : @LT.lt Nat _ lx pb) (hr3 : ∀ p ∈ rest, p.1 ≠ pb) (hpb : pbs.length < 900000)
  (N : News h₀ L s.heap ((pb, dqO (tv :: pbs) pn) :: (lx, instObj 722 dx) :: (dx, lexD w.params lt1 b sp ev cm wc pb fs io f sv ln tl tkx tt) :: rest))
  (hQ : ∀ h' k, Fr h₀ L h' m → News h₀ L h' ((pb, dqO pbs (pn + 1)) :: (lx, instObj 722 dx) :: (dx, lexD w.params lt1 b sp ev cm wc pb fs io f sv ln tl tkx tt) :: rest) → Q tv { s with heap := h', toks := k })
  : wpAny (model prog w) (ar hdl d (fenv ns ig ic mo gl cs qn fo cdv bi L :: outer) gs u) (call (.ref 683) [.ref lx]) Q E s := by
  have hpb' : pbs.length ≤ 900000 := by omega
  refine wpAny_call ?_
  k_enter
  k_steps
  exact hQ _ _ (by assumption) (by assumption)
end
end Mine

end
section
namespace Mine
theorem dm {w : World} {A : Around} {E : Value → Shared → Prop} {s : Shared} {Q : Value → Shared → Prop} {h₀ : Heap} {L : Addr} {m : Str → Option Value} {news : List (Addr × Obj)} {a b : Int} {t u : Tok} (F : Fr h₀ L s.heap m) (N : News h₀ L s.heap news) (hb : b ≠ 0) (ha : -(10 ^ 12) ≤ a ∧ a ≤ 10 ^ 12) (hb2 : -(10 ^ 8) ≤ b ∧ b ≤ 10 ^ 8)
    (h : ∀ q h' k t1 t2, Fr h₀ L h' m → News h₀ L h' ((q, { cls := .type "tuple", data := .seq #[.int (a.fdiv b) t1, .int (a.fmod b) t2] }) :: news) → (∀ p ∈ news, p.1 < q) → Q (.ref q) { s with heap := h', toks := k }) :
    wpAny (model prog w) A (call (.builtin "divmod") [.int a t, .int b u]) Q E s :=
  divmod_N F N hb (fun h' F' N' => h _ h' _ _ _ F' N' fun p hp => Heap.lt_size (N p hp).1) (Or.inl (PyProof.noPylong_small (by omega)))
end Mine

end
section
namespace Mine
section
variable {prog' : Program} {w : World} {A : Around} {E : Value → Shared → Prop} {s : Shared} {env : Env} {h₀ : Heap} {x : Str} {body : List Stmt} {Q : Flow → Shared → Prop}
def FreeEnd1 (h₀ : Heap) (L : Addr) (I : Addr) (oI : Obj) (J : (Str → Option Value) → List (Addr × Obj) → Prop) (s₁ : Shared) (Q : Flow → Shared → Prop) (f : Flow) (s₂ : Shared) : Prop :=
  match f with
  | .ret v => Q (.ret v) s₂
  | .brk => Q .next s₂
  | _ => ∃ h' tk' m' nx', s₂ = { s₁ with heap := h', toks := tk' } ∧ Fr h₀ L h' m' ∧ News h₀ L h' (nx' ++ [(I, oI)]) ∧ (∀ p ∈ nx', p.1 ≠ I) ∧ J m' nx'
theorem range_free {r : Addr} {b₀ : Int} {t₀ u₀ v₀ : Tok} {n : Nat} {lg : List (Addr × Obj)} {m₀ : Str → Option Value} (J : Nat → (Str → Option Value) → List (Addr × Obj) → Prop)
    (hh : A.handled = none) (hr : IsRange s.heap r 0 b₀ 1 t₀ u₀ v₀) (hsmall : Builtin.Range.small 0 b₀ 1 = true) (hn : Builtin.Range.rangeSize 0 b₀ 1 = (n : Int)) (F : Fr h₀ env.locals s.heap m₀) (N0 : News h₀ env.locals s.heap lg) (hj : J 0 m₀ lg)
    (turn : ∀ i t m₁ nx h tk I oI, i < n → J i m₁ nx → (∀ p ∈ nx, p.1 ≠ I) → Fr h₀ env.locals h (fun y => if y = x then some (.int (i : Int) t) else m₁ y) → News h₀ env.locals h (nx ++ [(I, oI)]) →
      wpAny (model prog' w) A (execs body env) (FreeEnd1 h₀ env.locals I oI (J (i + 1)) { s with heap := h, toks := tk } Q) E { s with heap := h, toks := tk })
    (done : ∀ m₁ nx h tk, J n m₁ nx → Fr h₀ env.locals h m₁ → News h₀ env.locals h nx → Q .next { s with heap := h, toks := tk }) :
    wpAny (model prog' w) A (pyIter (.ref r)) (fun it s₂ => LoopAtV prog' w A h₀ env x body Q E it s₂) E s := by
  refine wpAny_pyIter_range hr hsmall ?_
  have W : Walks prog' w A s.heap.objs.size [s.heap.objs.size] [s.heap.objs.size] n (fun i v => i < n ∧ ∃ t, v = .int (0 + i * 1) t)
      (fun i h => IsRangeIter h s.heap.objs.size (0 + (i : Nat) * 1) ((n : Int) - (i : Nat)) 1) := (Walks.range hh _ 0 1 n).bound
  let J' : Nat → (Str → Option Value) → List (Addr × Obj) → Prop := fun i m₁ news₁ => (∀ p ∈ news₁, p.1 ≠ s.heap.objs.size) ∧ J i m₁ news₁
  refine ⟨_, _, _, n, _, _, m₀, lg, J', rfl, W, ?_, ?_, ?_, (by show IsRangeIter _ _ _ _ _; rw [hn]; simpa using Heap.get?_push_size _ rfl), F.push _, (fun p hp => ⟨Heap.get?_push_of_some _ (N0 p hp).1, (N0 p hp).2⟩), ⟨fun p hp => Nat.ne_of_lt (Heap.lt_size (N0 p hp).1), hj⟩, ?_, ?_⟩
  · intro hm
    exact absurd F.ns.lt ((List.mem_singleton.mp hm) ▸ Nat.lt_irrefl _)
  · intro b hb
    rw [List.mem_singleton.mp hb]
    exact next_is_new F
  · intro p hp hI
    exact absurd (Heap.lt_size (N0 p hp).1) ((List.mem_singleton.mp hI) ▸ Nat.lt_irrefl _)
  · rintro i v m₁ news₁ s₁ own ⟨hh', tk', rfl⟩ hin ⟨_, t, rfl⟩ ⟨hadr, hJ⟩ hoff hown hat hall hst F₁ N₁
    obtain ⟨oI, hoI⟩ : ∃ oI, hh'.get? s.heap.objs.size = some oI := ⟨_, hst⟩
    have mI : (s.heap.objs.size, oI) ∈ own := hall _ (.head _) (next_is_new F) _ hoI
    have hown2 : ∀ p ∈ own, p ∈ [(s.heap.objs.size, oI)] := by
      rintro ⟨a, o⟩ hp
      have h1 := hat _ hp
      have e := List.mem_singleton.mp (hown _ hp)
      dsimp only at e h1
      subst e
      rw [hoI] at h1
      cases h1
      exact .head _
    have e1 : (0 : Int) + (i : Int) * 1 = (i : Int) := by omega
    rw [e1] at F₁
    have N₂ : News h₀ env.locals hh' (news₁ ++ [(s.heap.objs.size, oI)]) := by
      intro p hp
      rcases List.mem_append.mp hp with hp | hp
      · exact N₁ p (List.mem_append_right _ hp)
      · rw [List.mem_singleton.mp hp]
        exact N₁ _ (List.mem_append_left _ mI)
    refine wpAny_mono (turn i t m₁ news₁ hh' tk' s.heap.objs.size oI hin hJ hadr F₁ N₂) (fun f s₂ p => ?_) fun _ _ e => e
    have fin : (∃ h' tk'' m' nx', s₂ = { s with heap := h', toks := tk'' } ∧ Fr h₀ env.locals h' m' ∧ News h₀ env.locals h' (nx' ++ [(s.heap.objs.size, oI)]) ∧ (∀ p ∈ nx', p.1 ≠ s.heap.objs.size) ∧ J (i + 1) m' nx') → LoopStepU h₀ env.locals [s.heap.objs.size] own (J' (i + 1)) { s with heap := hh', toks := tk' } .next s₂ := by
      rintro ⟨h', tk, m', nx', e, F', N', ha, hm⟩
      refine ⟨rfl, h', tk, m', nx', e, F', fun p hp => ?_, fun p hp hq => ha p hp (List.mem_singleton.mp hq), ha, hm⟩
      rcases List.mem_append.mp hp with hp | hp
      · exact N' p (List.mem_append_right _ (hown2 p hp))
      · exact N' p (List.mem_append_left _ hp)
    cases f with
    | ret v => exact .ret p
    | brk => exact .brk p
    | next => exact .next (fin p)
    | cont => exact .cont (fin p)
  · rintro h' tk m' news' F' N' _ ⟨_, hJ⟩
    exact done m' news' h' tk hJ F' N'
end
end Mine

end
section
namespace Mine
section
variable {w : World} {A : Around} {E : Value → Shared → Prop} {s : Shared} {Q : Value → Shared → Prop} {t u : Tok}
theorem mul_nl {k : Int} (h0 : 0 ≤ k) (h2 : k ≤ 2) (h : ∀ t' j, Q (.str (S (List.replicate k.toNat 10)) t') { s with toks := j }) : wpAny (model prog w) A (binaryOp .Mult (.str (Str.ofString "\n") t) (.int k u)) Q E s := by
  have hs : Str.ofString "\n" = ⟨#[10]⟩ := by decide +kernel
  rw [hs]
  rcases (show k = 0 ∨ k = 1 ∨ k = 2 by omega) with rfl | rfl | rfl
  · exact P.mul_str_none (by decide) (by decide) (h _ _)
  · refine P.mul_str (by decide) (fun _ hh => ?_) (fun _ hh => ?_) ?_
    · exact absurd hh (by decide)
    · exact absurd hh (by decide)
    · exact h _ _
  · refine P.mul_str (by decide) (fun _ _ => ?_) (fun _ _ => ?_) ?_
    · decide
    · decide
    · exact ⟨by decide, h _ _⟩
theorem add_two {c d : Nat} {x y : Str} (hx : x = ⟨#[c]⟩) (hy : y = ⟨#[d]⟩) (h : ∀ t' j, Q (.str (S [c, d]) t') { s with toks := j }) : wpAny (model prog w) A (binaryOp .Add (.str x t) (.str y u)) Q E s := by
  subst hx hy
  exact PyProof.Rows.add_str (fun t' j => h t' j) (by show 1 + 1 ≤ sizeLine; decide)
theorem iadd_S2 {l : List Nat} {c d : Nat} (hl : l.length ≤ 100000) (h : ∀ t' j, Q (.str (S (l ++ [c, d])) t') { s with toks := j }) : wpAny (model prog w) A (inplaceOp .Add (.str (S l) t) (.str (S [c, d]) u)) Q E s := by
  refine PyProof.Rows.iadd_str (fun t' k => ?_) ?_
  · have e : S l ++ S [c, d] = S (l ++ [c, d]) := by
      show Str.append _ _ = _
      simp [Str.append, S]
    rw [e]; exact h t' k
  · simp only [S, Str.length, List.size_toArray, sizeLine]
    have : [c, d].length = 2 := rfl
    omega
end
/-! a source: the words that are left, how many line ends go with each, and the line ends behind them -/
inductive RemW : List Nat → List (Nat × Int) → Int → Prop
  | nil (k : Nat) : RemW (List.replicate k 10) [] k
  | cons (k : Nat) {c s : Nat} {r : List Nat} {ws : List (Nat × Int)} {ld : Int} : (97 ≤ c ∧ c ≤ 100) → (s = 32 ∨ s = 10) → RemW r ws ld → RemW (List.replicate k 10 ++ c :: s :: r) ((c, (k : Int) + (if s = 10 then 1 else 0)) :: ws) ld
theorem RemW.snoc {r : List Nat} {ws : List (Nat × Int)} {ld : Int} (h : RemW r ws ld) {c s : Nat} (hc : 97 ≤ c ∧ c ≤ 100) (hs : s = 32 ∨ s = 10) : RemW (r ++ [c, s]) (ws ++ [(c, ld + (if s = 10 then 1 else 0))]) 0 := by
  induction h with
  | nil k => exact RemW.cons k hc hs (RemW.nil 0)
  | @cons k c' s' r ws ld hc' hs' _ ih =>
    have := RemW.cons k hc' hs' ih
    simpa using this
theorem RemW.len {r : List Nat} {ws : List (Nat × Int)} {ld : Int} (h : RemW r ws ld) : 0 ≤ ld ∧ (ws.length : Int) + ld ≤ r.length := by
  induction h with
  | nil k => simp
  | cons k _ _ _ ih => simp only [List.length_cons, List.length_append, List.length_replicate]; omega
inductive WordsAt : List Value → List (Nat × Int) → List (Addr × Obj) → Prop
  | nil : WordsAt [] [] []
  | cons (a : Addr) (c : Nat) (e : Int) (t u : Tok) {vs : List Value} {ws : List (Nat × Int)} {l : List (Addr × Obj)} : WordsAt vs ws l → WordsAt (.ref a :: vs) ((c, e) :: ws) ((a, { cls := .type "tuple", data := .seq #[.str ⟨#[c]⟩ t, .int e u] }) :: l)
theorem WordsAt.snoc {vs : List Value} {ws : List (Nat × Int)} {l : List (Addr × Obj)} (h : WordsAt vs ws l) (a : Addr) (c : Nat) (e : Int) (t u : Tok) : WordsAt (vs ++ [.ref a]) (ws ++ [(c, e)]) (l ++ [(a, { cls := .type "tuple", data := .seq #[.str ⟨#[c]⟩ t, .int e u] })]) := by
  induction h with
  | nil => exact .cons a c e t u .nil
  | cons a' c' e' t' u' _ ih => exact .cons a' c' e' t' u' ih
theorem WordsAt.length {vs : List Value} {ws : List (Nat × Int)} {l : List (Addr × Obj)} (h : WordsAt vs ws l) : vs.length = ws.length := by
  induction h with
  | nil => rfl
  | cons _ _ _ _ _ _ ih => simp [ih]
def S4J (rest : List (Addr × Obj)) (nm B0 : Int) (i : Nat) (m : Str → Option Value) (nx : List (Addr × Obj)) : Prop :=
  ∃ (ni : Int) (tn tnm tld tt : Tok) (tx : List Nat) (ws : List (Nat × Int)) (ld : Int) (vs : List Value) (wl : Addr) (wk : Nat) (tups : List (Addr × Obj)) (m' : Str → Option Value),
    m = kstB m' [(Str.ofString "n", .int ni tn), (Str.ofString "name", .int nm tnm), (Str.ofString "lead", .int ld tld), (Str.ofString "text", .str (S tx) tt), (Str.ofString "words", .ref wl)] ∧
    nx = (wl, listOf vs.toArray wk) :: (tups ++ rest) ∧ WordsAt vs ws tups ∧ RemW tx ws ld ∧ ws.length = i ∧ 0 ≤ ni ∧ ni ≤ B0 ∧ (∀ p ∈ rest, p.1 < wl) ∧ (∀ p ∈ tups, wl < p.1) ∧ (tups.map (·.1)).Nodup ∧ ld ≤ 2 ∧ tx.length ≤ 2 + 2 * i
theorem all5p {α : Type} {P : α → Prop} {a b c d e : α} (ha : P a) (hb : P b) (hc : P c) (hd : P d) (he : P e) : ∀ p ∈ [a, b, c, d, e], P p := by
  intro p hp
  simp only [List.mem_cons, List.not_mem_nil, or_false] at hp
  rcases hp with rfl | rfl | rfl | rfl | rfl <;> assumption
theorem s4_j {m : Str → Option Value} {rest : List (Addr × Obj)} {nm B0 ni ld : Int} {i : Nat} {tn tnm tld tt : Tok} {tx : List Nat} {ws : List (Nat × Int)} {vs : List Value} {wl : Addr} {wk : Nat} {tups : List (Addr × Obj)}
  (h1 : m (Str.ofString "n") = some (.int ni tn)) (h2 : m (Str.ofString "name") = some (.int nm tnm)) (h3 : m (Str.ofString "lead") = some (.int ld tld)) (h4 : m (Str.ofString "text") = some (.str (S tx) tt)) (h5 : m (Str.ofString "words") = some (.ref wl))
  (p1 : WordsAt vs ws tups) (p2 : RemW tx ws ld) (p3 : ws.length = i) (p4 : 0 ≤ ni) (p5 : ni ≤ B0) (p6 : ∀ p ∈ rest, p.1 < wl) (p7 : ∀ p ∈ tups, wl < p.1) (pn : (tups.map (·.1)).Nodup) (p8 : ld ≤ 2) (p9 : tx.length ≤ 2 + 2 * i) :
  S4J rest nm B0 i m ((wl, listOf vs.toArray wk) :: (tups ++ rest)) := by
  refine ⟨ni, tn, tnm, tld, tt, tx, ws, ld, vs, wl, wk, tups, m, ?_, rfl, p1, p2, p3, p4, p5, p6, p7, pn, p8, p9⟩
  funext z
  exact (kstB_eq (all5p (P := fun p : Str × Value => m p.1 = some p.2) h1 h2 h3 h4 h5) fun _ => rfl).symm
theorem s4n : ¬ Str.ofString "n" = Str.ofString "words" ∧ ¬ Str.ofString "n" = Str.ofString "text" ∧ ¬ Str.ofString "n" = Str.ofString "size" ∧ ¬ Str.ofString "n" = Str.ofString "lead" ∧ ¬ Str.ofString "n" = Str.ofString "k" ∧ ¬ Str.ofString "n" = Str.ofString "turn" ∧ ¬ Str.ofString "n" = Str.ofString "name" ∧
  ¬ Str.ofString "name" = Str.ofString "words" ∧ ¬ Str.ofString "name" = Str.ofString "text" ∧ ¬ Str.ofString "name" = Str.ofString "size" ∧ ¬ Str.ofString "name" = Str.ofString "lead" ∧ ¬ Str.ofString "name" = Str.ofString "k" ∧ ¬ Str.ofString "name" = Str.ofString "turn" ∧ ¬ Str.ofString "name" = Str.ofString "n" ∧
  ¬ Str.ofString "lead" = Str.ofString "words" ∧ ¬ Str.ofString "lead" = Str.ofString "text" ∧ ¬ Str.ofString "lead" = Str.ofString "size" ∧ ¬ Str.ofString "lead" = Str.ofString "n" ∧ ¬ Str.ofString "lead" = Str.ofString "k" ∧ ¬ Str.ofString "lead" = Str.ofString "turn" ∧ ¬ Str.ofString "lead" = Str.ofString "name" ∧
  ¬ Str.ofString "text" = Str.ofString "words" ∧ ¬ Str.ofString "text" = Str.ofString "n" ∧ ¬ Str.ofString "text" = Str.ofString "size" ∧ ¬ Str.ofString "text" = Str.ofString "lead" ∧ ¬ Str.ofString "text" = Str.ofString "k" ∧ ¬ Str.ofString "text" = Str.ofString "turn" ∧ ¬ Str.ofString "text" = Str.ofString "name" ∧
  ¬ Str.ofString "words" = Str.ofString "n" ∧ ¬ Str.ofString "words" = Str.ofString "text" ∧ ¬ Str.ofString "words" = Str.ofString "size" ∧ ¬ Str.ofString "words" = Str.ofString "lead" ∧ ¬ Str.ofString "words" = Str.ofString "k" ∧ ¬ Str.ofString "words" = Str.ofString "turn" ∧ ¬ Str.ofString "words" = Str.ofString "name" := by decide +kernel
theorem s4_end {g h h2 : Heap} {L I : Addr} {oI : Obj} {s : Shared} {Q : Flow → Shared → Prop} {tk tk2 : Nat} {m2 : Str → Option Value} {rest nl : List (Addr × Obj)} {nm B0 ni ld : Int} {i : Nat} {tn tnm tld tt : Tok} {tx : List Nat} {ws : List (Nat × Int)} {vs : List Value} {wl D : Addr} {wk : Nat} {tups : List (Addr × Obj)} {c : Nat} {e : Int} {t u : Tok} {o : Obj}
  (F : Fr g L h2 m2) (N : News g L h2 ((D, { cls := .type "tuple", data := .seq #[.str ⟨#[c]⟩ t, .int e u] }) :: nl)) (hs : ∀ p ∈ (wl, listOf vs.toArray wk) :: (tups ++ rest) ++ [(I, oI)], p ∈ nl) (hD : ∀ p ∈ (wl, listOf vs.toArray wk) :: (tups ++ rest) ++ [(I, oI)], p.1 < D)
  (ha : ∀ p ∈ (wl, o) :: (tups ++ rest), p.1 ≠ I)
  (h1 : m2 (Str.ofString "n") = some (.int ni tn)) (h2' : m2 (Str.ofString "name") = some (.int nm tnm)) (h3 : m2 (Str.ofString "lead") = some (.int ld tld)) (h4 : m2 (Str.ofString "text") = some (.str (S tx) tt)) (h5 : m2 (Str.ofString "words") = some (.ref wl))
  (p1 : WordsAt vs ws (tups ++ [(D, { cls := .type "tuple", data := .seq #[.str ⟨#[c]⟩ t, .int e u] })])) (p2 : RemW tx ws ld) (p3 : ws.length = i + 1) (p4 : 0 ≤ ni) (p5 : ni ≤ B0) (p6 : ∀ p ∈ rest, p.1 < wl) (p7 : ∀ p ∈ tups, wl < p.1) (pn : (tups.map (·.1)).Nodup) (p8 : ld ≤ 2) (p9 : tx.length ≤ 2 + 2 * (i + 1)) :
  FreeEnd1 g L I oI (S4J rest nm B0 (i + 1)) { s with heap := h, toks := tk } Q .next { s with heap := h2, toks := tk2 } := by
  refine ⟨h2, tk2, m2, (wl, listOf vs.toArray wk) :: ((tups ++ [(D, { cls := .type "tuple", data := .seq #[.str ⟨#[c]⟩ t, .int e u] })]) ++ rest), rfl, F, ?_, ?_, s4_j h1 h2' h3 h4 h5 p1 p2 p3 p4 p5 p6 ?_ ?_ p8 p9⟩
  · intro p hp
    simp only [List.mem_append, List.mem_cons, List.not_mem_nil, or_false] at hp
    rcases hp with (h | (h | h) | h) | h
    · exact N p (.tail _ (hs p (by simp [h])))
    · exact N p (.tail _ (hs p (by simp [h])))
    · rw [h]; exact N _ (.head _)
    · exact N p (.tail _ (hs p (by simp [h])))
    · exact N p (.tail _ (hs p (by simp [h])))
  · intro p hp
    simp only [List.mem_append, List.mem_cons, List.not_mem_nil, or_false] at hp
    rcases hp with h | (h | h) | h
    · rw [h]; exact ha (wl, o) (.head _)
    · exact ha p (by simp [h])
    · rw [h]; exact Nat.ne_of_gt (hD (I, oI) (by simp))
    · exact ha p (by simp [h])
  · intro p hp
    rcases List.mem_append.mp hp with hp | hp
    · exact p7 p hp
    · rw [List.mem_singleton.mp hp]
      exact hD (wl, _) (.head _)
  · rw [List.map_append, List.nodup_append]
    refine ⟨pn, by simp, ?_⟩
    intro a ha b hb
    obtain ⟨q, hq, rfl⟩ := List.mem_map.mp ha
    simp only [List.map_cons, List.map_nil, List.mem_singleton] at hb
    rw [hb]
    exact Nat.ne_of_lt (hD q (by simp [hq]))
theorem allLt_of' {d : Addr} : ∀ {l : List (Addr × Obj)}, AllLt d l → ∀ p ∈ l, p.1 < d
  | [], _, _, hp => nomatch hp
  | _ :: _, h, _, .head _ => h.1
  | _ :: _, h, _, .tail _ hp => allLt_of' h.2 _ hp
theorem nl0 {w : World} {A : Around} {E : Value → Shared → Prop} {s : Shared} {h₀ : Heap} {L : Addr} {m : Str → Option Value} {news : List (Addr × Obj)} {vs : List Value} {Q : Value → Shared → Prop} (F : Fr h₀ L s.heap m) (N : News h₀ L s.heap news) (hv : vs.length ≤ 100)
    (h : ∀ l h', Fr h₀ L h' m → News h₀ L h' ((l, listOf vs.toArray 0) :: news) → (∀ p ∈ news, p.1 < l) → Q (.ref l) { s with heap := h' }) : wpAny (model prog w) A (newList vs) Q E s :=
  newList_K (hsz := Nat.le_trans hv (by decide +kernel)) F N h
/-- a source's name -/
def NmOk (v : Value) : Prop := v = .none ∨ ∃ y t, v = .str y t ∧ (y = Str.ofString "one" ∨ y = Str.ofString "two" ∨ y = Str.ofString "a b")
theorem s4_name {w : World} {A : Around} {E : Value → Shared → Prop} {s : Shared} {Q : Value → Shared → Prop} {h₀ : Heap} {L a : Addr} {news : List (Addr × Obj)} {value slice : Expr} {n : Int} {t1 t2 t3 u : Tok} {k : Nat} (N : News h₀ L s.heap news)
  (hm : (a, listOf [Value.none, Value.str (Str.ofString "one") t1, Value.str (Str.ofString "two") t2, Value.str (Str.ofString "a b") t3].toArray k) ∈ news) (h0 : 0 ≤ n) (h1 : n < 4) (h : ∀ v, NmOk v → Q v s)
  (hs : subscripted slice false (.ref a) (.int n u) = operate [.ref a, .int n u] (getItem (.ref a) (.int n u))) : wpAny (model prog w) A (subscriptTail value slice (.ref a) (.int n u)) Q E s := by
  refine kd_item (L9 := []) (ds := [.none, .str (Str.ofString "one"), .str (Str.ofString "two"), .str (Str.ofString "a b")]) N hm (.cons .none (.cons (.str _ _) (.cons (.str _ _) (.cons (.str _ _) .nil)))) h0 (by simp only [List.length_cons, List.length_nil]; omega) (by omega) (fun v d _ hm hv => h v ?_) hs
  simp only [List.mem_cons, List.not_mem_nil, or_false] at hm
  rcases hm with rfl | rfl | rfl | rfl
  · cases hv; exact .inl rfl
  · cases hv; exact .inr ⟨_, _, rfl, .inl rfl⟩
  · cases hv; exact .inr ⟨_, _, rfl, .inr (.inl rfl)⟩
  · cases hv; exact .inr ⟨_, _, rfl, .inr (.inr rfl)⟩
/-- no address twice -/
def ND (l : List (Addr × Obj)) : Prop := (l.map (·.1)).Nodup
theorem nd_cons {a : Addr} {o : Obj} {l : List (Addr × Obj)} (h : ∀ p ∈ l, p.1 ≠ a) (hl : ND l) : ND ((a, o) :: l) := by
  unfold ND
  rw [List.map_cons, List.nodup_cons]
  refine ⟨fun hm => ?_, hl⟩
  obtain ⟨p, hp, e⟩ := List.mem_map.mp hm
  exact h p hp e
def SzB (n : Nat) : Prop := n < 4
theorem item_k {k : Int} (h0 : 0 ≤ k) (h8 : k < 8) : ∃ c s : Nat, Txt.item (Str.ofString "abcd") (k.fmod 4) = ⟨#[c]⟩ ∧ Txt.item (Str.ofString " \n") (k.fdiv 4) = ⟨#[s]⟩ ∧ (97 ≤ c ∧ c ≤ 100) ∧ (s = 32 ∨ s = 10) ∧ k.fdiv 4 = (if s = 10 then 1 else 0) := by
  have h : ∀ j : Fin 8, ∃ c s : Nat, Txt.item (Str.ofString "abcd") ((j.val : Int).fmod 4) = ⟨#[c]⟩ ∧ Txt.item (Str.ofString " \n") ((j.val : Int).fdiv 4) = ⟨#[s]⟩ ∧ (97 ≤ c ∧ c ≤ 100) ∧ (s = 32 ∨ s = 10) ∧ (j.val : Int).fdiv 4 = (if s = 10 then 1 else 0) := by
    intro j
    match j with
    | 0 => exact ⟨97, 32, by decide +kernel⟩
    | 1 => exact ⟨98, 32, by decide +kernel⟩
    | 2 => exact ⟨99, 32, by decide +kernel⟩
    | 3 => exact ⟨100, 32, by decide +kernel⟩
    | 4 => exact ⟨97, 10, by decide +kernel⟩
    | 5 => exact ⟨98, 10, by decide +kernel⟩
    | 6 => exact ⟨99, 10, by decide +kernel⟩
    | 7 => exact ⟨100, 10, by decide +kernel⟩
  obtain ⟨j, rfl⟩ := Int.eq_ofNat_of_zero_le h0
  exact h ⟨j, by omega⟩
end Mine
local macro_rules | `(tactic| walk_at "execs nil") => `(tactic| (with_reducible refine wpAny_execs_nil ?_))
local macro_rules | `(tactic| walk_at "exec If") => `(tactic| ((try k_fold); with_reducible refine wpAny_If ?_))
local macro_rules | `(tactic| walk_at "ite") => `(tactic| first | with_reducible refine Mine.ite_t ?_ | with_reducible refine Mine.ite_f ?_)
local macro_rules | `(tactic| walk_at "execs cons") => `(tactic| ((try dsimp only); with_reducible refine wpAny_execs_cons ?_))
local macro_rules | `(tactic| walk_at "call builtin:divmod") => `(tactic| (k_here; (with_reducible show wpAny _ _ (call (Value.builtin _) [Value.int _ _, Value.int _ _]) _ _ _); k_dflt (refine' Mine.dm ?F ?N ?a ?b ?c ?_; (case F => k_asm); (case N => k_asm); (case a => decide); (case b => omega); (case c => decide)); intro q' h' k' t1' t2' F' N' l1; (try dsimp only); (try k_lt l1); (try k_sweep)))
local macro_rules | `(tactic| walk_at "binaryOp Mult str int") => `(tactic| (k_here; k_dflt (refine' Mine.mul_nl ?a ?b ?_; (case a => omega); (case b => omega)); intro t' k'; (try dsimp only)))
local macro_rules | `(tactic| walk_at "exec For Name Call cons nil") => `(tactic| (k_here; (rename Fr _ _ _ _ => lF'); (with_reducible refine For_invVF lF' ?k1 ?k2 ?_ ?k3 ?k4); (case k1 => exact rfl); (case k2 => exact rfl); (case k3 => exact fun _ => rfl); (case k4 => passes_own); k_whole))
namespace Mine
section
variable {w : World} {A₀ : Around} {base h₀ : Heap} {outer : List Env} {L : Addr} {m mg mb : Str → Option Value} {loose : List Str} {mean : ExcName → Option Value} {s : Shared} {Q E : Value → Shared → Prop} {p : Program}
  {hdl : Option Value} {d u : Nat} {gs : Option (List Code)} {rest : List (Addr × Obj)} {ns : List (Str × NameKind)} {ig ic : Bool} {mo : List (Str × Const)} {gl bi : Addr} {cs : List (Str × Addr)} {qn : Str} {fo : Option Addr} {cdv : Value}
theorem src4 {n : Int} {tk : Tok}
  (B : Below A₀ base outer h₀) (F : Fr h₀ L s.heap m) (X : (hd.heap_1 w.params).In h₀) (T : Top p loose mean mg mb h₀) (hdp : d < 900) (hun : u < 9000)
  (h0 : 0 ≤ n) (hn : n ≤ 20000000000)
  (N : News h₀ L s.heap rest)
  (hQ : ∀ h' k q a wl tups n' t0 tx t1 nv tl ld tld vs wk ws, Fr h₀ L h' m → News h₀ L h' ((q, { cls := .type "tuple", data := .seq #[.int n' t0, .str (S tx) t1, .ref a] }) :: (a, listOf [nv, .int 1 tl, .ref wl, .int ld tld].toArray 0) :: (wl, listOf (vs : List Value).toArray wk) :: (tups ++ rest)) →
    NmOk nv → WordsAt vs ws tups → RemW tx ws ld → ws.length < 4 → (0 ≤ n' ∧ n' ≤ n) → ld ≤ 2 → tx.length ≤ 8 →
    (ND rest → ND ((q, ({ cls := .type "tuple", data := .seq #[.int n' t0, .str (S tx) t1, .ref a] } : Obj)) :: (a, listOf [nv, .int 1 tl, .ref wl, .int ld tld].toArray 0) :: (wl, listOf (vs : List Value).toArray wk) :: (tups ++ rest))) → Q (.ref q) { s with heap := h', toks := k })
  : wpAny (model prog w) (ar none d (fenv ns ig ic mo gl cs qn fo cdv bi L :: outer) gs u) (call (.ref 733) [.int n tk]) Q E s := by
  have e1 : 0 ≤ n.fdiv 4 ∧ n.fdiv 4 ≤ n := by rw [Int.fdiv_eq_ediv_of_nonneg _ (by decide)]; omega
  have e2 : 0 ≤ n.fmod 4 ∧ n.fmod 4 < 4 := ⟨Int.fmod_nonneg_of_pos _ (by decide), Int.fmod_lt_of_pos _ (by decide)⟩
  have e3 : 0 ≤ (n.fdiv 4).fdiv 3 ∧ (n.fdiv 4).fdiv 3 ≤ n.fdiv 4 := by rw [Int.fdiv_eq_ediv_of_nonneg (n.fdiv 4) (by decide)]; omega
  have e4 : 0 ≤ (n.fdiv 4).fmod 3 ∧ (n.fdiv 4).fmod 3 < 3 := ⟨Int.fmod_nonneg_of_pos _ (by decide), Int.fmod_lt_of_pos _ (by decide)⟩
  have e5 : 0 ≤ ((n.fdiv 4).fdiv 3).fdiv 4 ∧ ((n.fdiv 4).fdiv 3).fdiv 4 ≤ (n.fdiv 4).fdiv 3 := by rw [Int.fdiv_eq_ediv_of_nonneg ((n.fdiv 4).fdiv 3) (by decide)]; omega
  have e6 : 0 ≤ ((n.fdiv 4).fdiv 3).fmod 4 ∧ ((n.fdiv 4).fdiv 3).fmod 4 < 4 := ⟨Int.fmod_nonneg_of_pos _ (by decide), Int.fmod_lt_of_pos _ (by decide)⟩
  refine wpAny_call ?_
  k_enter
  obtain ⟨sz, hsz⟩ := Int.eq_ofNat_of_zero_le e6.1
  have hszb : SzB sz := by unfold SzB; omega
  (repeat' (first | (k_unfold; (try dsimp only)) | ((fail_if_success (with_reducible show wpAny _ _ (binaryOp Operator.Mult _ _) _ _ _)); walk1)))
  rename Fr _ _ _ _ => F1
  rename News _ _ _ _ => N1
  simp only [hsz] at F1
  clear e6 hsz
  (repeat' (first | (k_unfold; (try dsimp only)) | ((fail_if_success (with_reducible show wpAny _ _ (newList _) _ _ _)); walk1)))
  rename Fr _ _ _ _ => F2
  rename News _ _ _ _ => N2
  refine nl0 F2 N2 (by show 0 ≤ 100; omega) ?_
  intro wl0 hw0 F3 N3 lo0
  clear F2 N2
  (repeat' (first | (k_unfold; (try dsimp only)) | ((fail_if_success (with_reducible show wpAny _ _ (pyIter _) _ _ _)); walk1)))
  rename IsRange _ _ _ _ _ _ _ _ => hR
  rename Fr _ _ _ _ => F2
  rename News _ _ _ _ => N2
  unfold SzB at hszb
  refine range_free (S4J rest (n.fmod 4) n) rfl hR (small_one (by omega) (by omega) (by omega) (by omega)) (rangeSize_nat _ _) F2 (lg := (wl0, listOf #[] 0) :: rest) ?j0 ?j1 ?j2 ?j3
  case j0 =>
    intro p hp
    rcases List.mem_cons.mp hp with rfl | hp
    · exact N2 _ (.head _)
    · exact N2 p (.tail _ (.tail _ (.tail _ (.tail _ hp))))
  case j1 =>
    refine' s4_j (ni := ((n.fdiv 4).fdiv 3).fdiv 4) (vs := []) (ws := []) (tups := []) (tx := List.replicate ((n.fdiv 4).fmod 3).toNat 10) (ld := (n.fdiv 4).fmod 3) ?n1 ?n2 ?n3 ?n4 ?n5 .nil ?n6 rfl (by omega) (by omega) (fun p hp => lo0 p (.tail _ (.tail _ (.tail _ hp)))) (by simp) (by simp) (by omega) (by rw [List.length_replicate]; omega)
    case n6 =>
      have := RemW.nil ((n.fdiv 4).fmod 3).toNat
      rw [Int.toNat_of_nonneg e4.1] at this
      exact this
    case n5 => exact if_pos rfl
    any_goals (simp only [s4n, if_true, if_false]; rfl)
  case j2 =>
    clear F2 N2
    rintro i tI m₁ nx h tk I oI hi ⟨ni, tn, tnm, tld, tt, tx, ws, ld, vs, wl, wk, tups, m', rfl, rfl, p1, p2, p3, p4, p5, p6, p7, pn, p8, p9⟩ hadr F3 N3
    have hwl := p1.length
    have hrl := p2.len
    have f1 : 0 ≤ ni.fdiv 8 ∧ ni.fdiv 8 ≤ ni := by rw [Int.fdiv_eq_ediv_of_nonneg ni (by decide)]; omega
    have f2 : 0 ≤ ni.fmod 8 ∧ ni.fmod 8 < 8 := ⟨Int.fmod_nonneg_of_pos _ (by decide), Int.fmod_lt_of_pos _ (by decide)⟩
    obtain ⟨c, sp, g1, g2, g3, g4, g5⟩ := item_k f2.1 f2.2
    have f3 : 0 ≤ (ni.fmod 8).fmod 4 ∧ (ni.fmod 8).fmod 4 < 4 := ⟨Int.fmod_nonneg_of_pos _ (by decide), Int.fmod_lt_of_pos _ (by decide)⟩
    have f4 : 0 ≤ (ni.fmod 8).fdiv 4 ∧ (ni.fmod 8).fdiv 4 < 2 := by rw [g5]; split <;> omega
    have N4 := N3
    rw [List.cons_append] at N3
    generalize hR2 : tups ++ rest ++ [(I, oI)] = R2 at N3
    (repeat' (first | (k_unfold; (try dsimp only)) | ((fail_if_success (with_reducible show wpAny _ _ (binaryOp Operator.Add _ _) _ _ _)); walk1)))
    rename Fr _ _ _ _ => F5
    rename News _ _ _ _ => N5
    refine add_two g1 g2 ?_
    intro t5 k5
    (repeat' (first | (k_unfold; (try dsimp only)) | ((fail_if_success (with_reducible show wpAny _ _ (inplaceOp Operator.Add _ _) _ _ _)); walk1)))
    refine iadd_S2 (by omega) ?_
    intro t6 k6
    (repeat' (first | (k_unfold; (try dsimp only)) | ((fail_if_success (with_reducible show wpAny _ _ (newTuple _) _ _ _)); walk1)))
    rename Fr _ _ _ _ => F6
    rename News _ _ _ _ => N6
    rw [g1, g5]
    refine kup_newTuple F6 N6 ?_ (by rw [PySem.sizeLine_eq]; exact Nat.le_of_ble_eq_true rfl)
    intro D7 h7 F7 N7 l7
    (repeat' (first | (k_unfold; (try dsimp only)) | ((fail_if_success (with_reducible show wpAny _ _ (call (Value.builtin "list.append") _) _ _ _)); walk1)))
    rename Fr _ _ _ _ => F8
    have hwl2 : ∀ p ∈ R2, p.1 ≠ wl := by
      intro p hp
      rw [← hR2] at hp
      rcases List.mem_append.mp hp with hp | hp
      · rcases List.mem_append.mp hp with hp | hp
        · exact Nat.ne_of_gt (p7 p hp)
        · exact Nat.ne_of_lt (p6 p hp)
      · rw [List.mem_singleton.mp hp]
        exact Ne.symm (hadr _ (.head _))
    have l8 : ∀ p ∈ (wl, listOf vs.toArray wk) :: R2, p.1 < D7 := fun p hp => l7 p (.tail _ hp)
    refine append_K F8 (fun p hp => N7 p (List.mem_cons.mpr ((List.mem_cons.mp hp).imp id (.tail _)))) (.tail (Ne.symm (Nat.ne_of_lt (l8 _ (.head _)))) (.head hwl2)) ?_ (by rw [PySem.sizeLine_eq, List.size_toArray]; omega)
    intro h9 F9 N9
    rw [List.push_toArray] at N9
    k_steps
    rename Fr _ _ _ _ => F10
    rename News _ _ _ _ => N10
    subst hR2
    refine' s4_end (i := i) (ni := ni.fdiv 8) (tx := tx ++ [c, sp]) (ld := 0) (vs := vs ++ [.ref D7]) (wk := wk + 1) (ws := ws ++ [(c, ld + if sp = 10 then 1 else 0)]) (tups := tups) (rest := rest) (wl := wl) F10 N10 (fun p hp => hp) ?hD hadr ?x1 ?x2 ?x3 ?x4 ?x5 (p1.snoc _ _ _ _ _) (p2.snoc g3 g4) ?m1 f1.1 (by omega) p6 p7 pn (by omega) ?m2
    case hD =>
      intro p hp
      rcases List.mem_cons.mp hp with rfl | hp
      · exact l8 (wl, listOf vs.toArray wk) (.head _)
      · exact l8 p (.tail _ hp)
    case m1 => (rw [List.length_append, p3]; rfl)
    case m2 => (rw [List.length_append]; show tx.length + 2 ≤ _; omega)
    any_goals (simp only [kstB, s4n, if_true, if_false] <;> rfl)
  case j3 =>
    clear F2 N2
    rintro m₁ nx h tk ⟨ni, tn, tnm, tld, tt, tx, ws, ld, vs, wl, wk, tups, m', rfl, rfl, p1, p2, p3, p4, p5, p6, p7, pn, p8, p9⟩ F3 N3
    (repeat' (first | (k_unfold; (try dsimp only)) | ((fail_if_success (with_reducible show wpAny _ _ (newList _) _ _ _)); walk1)))
    refine nl0 F3 N3 (by show 4 ≤ 100; omega) ?_
    intro a1 h1 F4 N4 o4
    clear F3 N3
    (repeat' (first | (k_unfold; (try dsimp only)) | ((fail_if_success (with_reducible show wpAny _ _ (subscriptTail _ _ _ _) _ _ _)); walk1)))
    change News _ _ _ _ at N4
    refine s4_name N4 (.head _) e2.1 e2.2 ?_ (by with_unfolding_all rfl)
    intro nv hnv
    (repeat' (first | (k_unfold; (try dsimp only)) | ((fail_if_success (with_reducible show wpAny _ _ (newList _) _ _ _)); walk1)))
    refine nl0 F4 (fun p hp => N4 p (.tail _ hp)) (by show 4 ≤ 100; omega) ?_
    intro a2 h2 F5 N5 o5
    clear F4 N4
    (repeat' (first | (k_unfold; (try dsimp only)) | ((fail_if_success (with_reducible show wpAny _ _ (newTuple _) _ _ _)); walk1)))
    refine kup_newTuple F5 N5 ?_ (by rw [PySem.sizeLine_eq]; exact Nat.le_of_ble_eq_true rfl)
    intro q6 h6 F6 N6 o6
    k_steps
    refine hQ _ _ _ _ _ _ _ _ _ _ _ _ _ _ _ _ _ (by assumption) (by assumption) hnv p1 p2 (by rw [p3]; exact hszb) ⟨p4, p5⟩ p8 (by omega) ?_
    intro hr
    have hwr : ∀ p ∈ tups ++ rest, p.1 ≠ wl := by
      intro p hp
      rcases List.mem_append.mp hp with hp | hp
      · exact Nat.ne_of_gt (p7 p hp)
      · exact Nat.ne_of_lt (p6 p hp)
    have hd : ∀ a ∈ tups.map (·.1), ∀ b ∈ rest.map (·.1), a ≠ b := by
      intro a ha b hb
      obtain ⟨x, hx, rfl⟩ := List.mem_map.mp ha
      obtain ⟨y, hy, rfl⟩ := List.mem_map.mp hb
      exact Nat.ne_of_gt (Nat.lt_trans (p6 y hy) (p7 x hx))
    have n0 : ND (tups ++ rest) := by unfold ND; rw [List.map_append, List.nodup_append]; exact ⟨pn, hr, hd⟩
    exact nd_cons (fun p hp => Nat.ne_of_lt (o6 p hp)) (nd_cons (fun p hp => Nat.ne_of_lt (o5 p hp)) (nd_cons hwr n0))
end
end Mine

end
section
namespace Mine
/-! law 4: sources upon one another -/
structure Src where
  nv : Value
  ln : Int
  ws : List (Nat × Int)
  ld : Int
def nextS : List Src → Option Nat × List Src
  | [] => (none, [])
  | t :: r => match t.ws with
    | (c, e) :: ws => (some c, { t with ws := ws, ln := t.ln + e } :: r)
    | [] => match r with
      | [] => (none, [{ t with ln := t.ln + t.ld, ld := 0 }])
      | a :: q => nextS (a :: q)
theorem rt_nl {b : Bool} {W : Nat → Bool} (tl : List Nat) : ∀ (k : Nat) (ln : Int), rt b W .white [] (List.replicate k 10 ++ tl) ln = rt b W .white [] tl (ln + k)
  | 0, ln => by simp
  | k + 1, ln => by
    rw [List.replicate_succ, List.cons_append, rt]
    have h1 : isWs 10 = true := by decide +kernel
    have h2 : ((10 : Nat) == 10) = true := rfl
    simp only [h1, h2, if_true]
    rw [rt_nl tl k (ln + 1)]
    congr 1
    omega
theorem ltr_ok {c : Nat} (h : 97 ≤ c ∧ c ≤ 100) : isWs c = false ∧ isCm c = false ∧ ∀ b, (WC b).cps.toList.contains c = true := by
  have h4 : c = 97 ∨ c = 98 ∨ c = 99 ∨ c = 100 := by omega
  have k : ∀ c ∈ [97, 98, 99, 100], isWs c = false ∧ isCm c = false ∧ ∀ b, (WC b).cps.toList.contains c = true := by decide +kernel
  refine k c ?_
  simp only [List.mem_cons, List.not_mem_nil, or_false]
  exact h4
theorem rt_end {b b' : Bool} (k : Nat) (ln : Int) : rt b (fun c => (WC b').cps.toList.contains c) .white [] (List.replicate k 10) ln = ⟨[], .fin, [], ln + k, none⟩ := by
  have := rt_nl (b := b) (W := fun c => (WC b').cps.toList.contains c) [] k ln
  rw [List.append_nil] at this
  rw [this, rt]
theorem rt_word {b b' : Bool} (k c s : Nat) (r : List Nat) (ln : Int) (hc : 97 ≤ c ∧ c ≤ 100) (hs : s = 32 ∨ s = 10) :
    rt b (fun c => (WC b').cps.toList.contains c) .white [] (List.replicate k 10 ++ c :: s :: r) ln = ⟨[c], .white, r, ln + ((k : Int) + (if s = 10 then 1 else 0)), none⟩ := by
  obtain ⟨h1, h2, h3⟩ := ltr_ok hc
  have h4 := h3 b'
  rw [rt_nl, rt]
  simp only [h1, h2, h4, if_true, if_false, Bool.false_eq_true]
  rw [rt]
  rcases hs with rfl | rfl
  · have h5 : isWs 32 = true := by decide +kernel
    have h6 : ((32 : Nat) == 10) = false := rfl
    simp only [h5, h6, if_true, if_false, Bool.false_eq_true]
    simp
  · have h5 : isWs 10 = true := by decide +kernel
    have h6 : ((10 : Nat) == 10) = true := rfl
    simp only [h5, h6, if_true]
    congr 1
    omega
theorem ltr_plain {c : Nat} (h : 97 ≤ c ∧ c ≤ 100) : (Str.ofString "'\"").cps.toList.contains c = false ∧ (Str.ofString "\\").cps.toList.contains c = false := by
  have h4 : c = 97 ∨ c = 98 ∨ c = 99 ∨ c = 100 := by omega
  have k : ∀ c ∈ [97, 98, 99, 100], (Str.ofString "'\"").cps.toList.contains c = false ∧ (Str.ofString "\\").cps.toList.contains c = false := by decide +kernel
  refine k c ?_
  simp only [List.mem_cons, List.not_mem_nil, or_false]
  exact h4
end Mine

end
section
local macro_rules | `(tactic| walk_at "compareOp In str str") => `(tactic| (k_here; (with_reducible show wpAny _ _ (compareOp CmpOp.In (Value.str (Str.mk #[_]) _) _) _ _ _); (with_reducible refine' Mine.in_ch ?e ?_); (case e => first | with_reducible assumption | rfl); k_whole))
local macro_rules | `(tactic| walk_at "compareOp Eq str str") => `(tactic| (k_here; (with_reducible show wpAny _ _ (compareOp CmpOp.Eq (Value.str (Str.mk #[_]) _) (Value.str (Str.ofString "\n") _)) _ _ _); (with_reducible refine' Mine.eq_nl ?e ?_); (case e => first | with_reducible assumption | rfl); k_whole))
local macro_rules | `(tactic| walk_at "truthy str") => `(tactic| (k_here; (with_reducible show wpAny _ _ (truthy (Value.str (Str.mk #[_]) _)) _ _ _); (with_reducible refine Mine.truthy_ch ?_); (try dsimp only)))
local macro_rules | `(tactic| walk_at "call ref") => `(tactic| (k_here; (with_reducible show wpAny _ _ (call (Value.ref 533) [Value.ref _, Value.int 1 _]) _ _ _); k_dflt (first | (refine' Mine.read_c ?k1 ?k2 ?k3 ?k4 ?k5 ?k6 ?k7 ?k8 ?k9 ?k10 ?k11 ?_; (case k11 => k_asm); (case k10 => assumption); (case k1 => k_asm); (case k2 => k_asm); (case k3 => k_asm); (case k4 => k_asm); (case k5 => k_room); (case k6 => k_units); (case k7 => k_asm); (case k8 => k_asm); (case k9 => k_all); k_whole) | (refine' Mine.read_e ?k1 ?k2 ?k3 ?k4 ?k5 ?k6 ?k7 ?k8 ?k9 ?k10 ?k11 ?_; (case k11 => k_asm); (case k10 => assumption); (case k1 => k_asm); (case k2 => k_asm); (case k3 => k_asm); (case k4 => k_asm); (case k5 => k_room); (case k6 => k_units); (case k7 => k_asm); (case k8 => k_asm); (case k9 => k_all); k_whole)); intro h' t' t2' k' F' N'; (try dsimp only); (try k_sweep)))
local macro_rules | `(tactic| ktr_unf) => `(tactic| (repeat' (first | (k_unfold; (try dsimp only)) | ((fail_if_success (with_reducible show wpAny _ _ (exec (Stmt.While _ _ _ _) _) _ _ _)); walk1))))
local macro_rules | `(tactic| walk_at "ite") => `(tactic| first | with_reducible refine Mine.ite_t ?_ | with_reducible refine Mine.ite_f ?_)
local macro_rules | `(tactic| walk_at "truthy str") => `(tactic| (k_here; (with_reducible show wpAny _ _ (truthy (Value.str (Mine.S _) _)) _ _ _); (with_reducible refine' Mine.truthy_S ?e ?l ?_); (case e => with_reducible assumption); (case l => omega); k_whole; (try dsimp only)))
local macro_rules | `(tactic| walk_at "compareOp Eq str str") => `(tactic| (k_here; (with_reducible show wpAny _ _ (compareOp CmpOp.Eq (Value.str (Mine.S _) _) (Value.str (Str.ofString "") _)) _ _ _); (with_reducible refine' Mine.eq_S ?e ?_); (case e => with_reducible assumption); k_whole))
local macro_rules | `(tactic| walk_at "exec If") => `(tactic| ((try k_fold); with_reducible refine wpAny_If ?_))
local macro_rules | `(tactic| walk_at "execs nil") => `(tactic| (with_reducible refine wpAny_execs_nil ?_))
local macro_rules | `(tactic| walk_at "compareOp In str str") => `(tactic| (k_here; (with_reducible show wpAny _ _ (compareOp CmpOp.In (Value.str (Str.ofString _) _) (Value.str (Str.ofString _) _)) _ _ _); first | ((with_reducible refine' Mine.in_lit_f ?e ?_); (case e => decide +kernel)) | ((with_reducible refine' Mine.in_lit_t ?e ?_); (case e => decide +kernel))))
local macro_rules | `(tactic| walk_at "getAttr ref") => `(tactic| (k_here; k_dflt (refine' get_own ?k1 ?k2 ?k3 ?k4 ?k5 ?k6 ?k7 ?k8 ?k9 ?_; (case k1 => k_asm); (case k2 => k_asm); (case k3 => k_inst); (case k4 => k_is); (case k5 => k_is); (case k6 => k_is); (case k7 => k_is); (case k8 => k_get); (case k9 => k_handed); k_whole)))
local macro_rules | `(tactic| walk_at "callWith ref") => `(tactic| (k_here; first
  | ((with_reducible show wpAny _ _ (callWith _ _ _ (backTo _ (starEach [] _)) []) _ _ _); row_timed "R1c" (refine' callWith_K0 ?k1 ?k2 ?_); row_timed "R1k1" (case k1 => exact Frag.In.keeps (by with_reducible assumption) (Fr.keep (by assumption))); row_timed "R1k2" (case k2 => k_is); k_whole; (try dsimp only [List.nil_append, List.cons_append, List.append_nil]))
  | (row_timed "R2c" (refine' callWith_K ?k1 ?k2 ?_); row_timed "R2k1" (case k1 => k_asm); row_timed "R2k2" (case k2 => k_is); k_whole)))
local macro_rules | `(tactic| walk_at "execs cons") => `(tactic| ((try dsimp only); with_reducible refine wpAny_execs_cons ?_))
namespace Mine
theorem test_f {w : World} {A : Around} {E : Value → Shared → Prop} {s : Shared} {test : Expr} {env : Env} {Q : Bool → Shared → Prop} (h1 : wpAny (model prog w) A (isTrue test env (eval test env)) (fun r s' => r = false ∧ ∃ tk, s' = { s with toks := tk }) E s)
    (h2 : ∀ tk, Q false { s with toks := tk }) : wpAny (model prog w) A (isTrue test env (eval test env)) Q E s :=
  wpAny_mono h1 (fun r s' h => by obtain ⟨rfl, tk, rfl⟩ := h; exact h2 tk) fun _ _ e => e
section
variable {w : World} {A₀ : Around} {base h₀ : Heap} {outer : List Env} {L : Addr} {m mg mb : Str → Option Value} {loose : List Str} {mean : ExcName → Option Value} {s : Shared} {Q E : Value → Shared → Prop} {p : Program}
  {hdl : Option Value} {d u : Nat} {gs : Option (List Code)} {rest : List (Addr × Obj)} {ns : List (Str × NameKind)} {ig ic : Bool} {mo : List (Str × Const)} {gl bi : Addr} {cs : List (Str × Addr)} {qn : Str} {fo : Option Addr} {cdv : Value}
def Shp (st : LSt) (rem : List Nat) : Prop := match st with
  | .fin => rem = []
  | .white => ∃ ws ld, RemW rem ws ld
  | .word => ∃ c r ws ld, rem = c :: r ∧ (c = 32 ∨ c = 10) ∧ RemW r ws ld
theorem RemW.two {r : List Nat} {ws : List (Nat × Int)} {ld : Int} (h : RemW r ws ld) : r = [] ∨ (∃ q ws ld, r = 10 :: q ∧ RemW q ws ld) ∨ ∃ c q, r = c :: q ∧ (97 ≤ c ∧ c ≤ 100) ∧ Shp .word q := by
  cases h with
  | nil k => cases k with
    | zero => exact .inl rfl
    | succ k => exact .inr (.inl ⟨_, _, _, List.replicate_succ, .nil k⟩)
  | cons k h1 h2 h3 => cases k with
    | zero => exact .inr (.inr ⟨_, _, by rw [List.replicate_zero, List.nil_append], h1, _, _, _, _, rfl, h2, h3⟩)
    | succ k => exact .inr (.inl ⟨_, _, _, by rw [List.replicate_succ, List.cons_append], .cons k h1 h2 h3⟩)
def TkInv (x : Str) (b : Bool) (W : Nat → Bool) (tgt : RtR) (pbs : List Value) (c : LS) : Prop :=
  ∃ st l rem, SV st c.sv ∧ c.tok = S l ∧ x.cps.toList.drop c.pos = rem ∧ l.length + rem.length ≤ 100000 ∧ (st = .white → l = []) ∧ (st = .word → l.isEmpty = false) ∧ Shp st rem ∧ rt b W st l rem c.ln = tgt ∧ c.pbs = pbs
def TkEnd (x : Str) (tgt : RtR) (pbs : List Value) (c : LS) : Prop :=
  ∃ l, c.tok = S l ∧ l.length ≤ 100000 ∧ SV tgt.st c.sv ∧ x.cps.toList.drop c.pos = tgt.rem ∧ c.ln = tgt.ln ∧ l = tgt.tok ∧ OV tgt.over c.pbs pbs
theorem rtok {lx dx io iod pb fs : Addr} {x tkx : Str} {pos : Nat} {kt : IoT} {lt1 : LxT} {b : Bool} {ev f sv : Value} {ln : Int} {t2 tl tt : Tok} {pbs : List Value} {pn : Int} {st : LSt} {rem : List Nat}
  (B : Below A₀ base outer h₀) (F : Fr h₀ L s.heap m) (X : (hd.heap_1 w.params).In h₀) (T : Top p loose mean mg mb h₀) (hdp : d < 900) (hun : u < 9000)
  (hx : x.length ≤ 100000) (h1 : @LT.lt Nat _ dx lx) (h2 : @LT.lt Nat _ lx iod) (h3 : @LT.lt Nat _ iod io) (h4 : @Ne Nat io pb) (h4a : @Ne Nat iod pb) (h4b : @Ne Nat lx pb) (h4c : @Ne Nat dx pb) (hr1 : ∀ p ∈ rest, p.1 ≠ iod) (hr2 : ∀ p ∈ rest, p.1 ≠ dx) (hr3 : ∀ p ∈ rest, p.1 ≠ pb)
  (hsv : SV st sv) (hrem : x.cps.toList.drop pos = rem) (hst : st ≠ .word) (hok : Shp st rem) (hpb : pbs.length ≤ 900000) (htk : tkx = S [])
  (N : News h₀ L s.heap ((io, instObj 587 iod) :: (iod, ioD w.params kt x pos t2) :: (pb, dqO pbs pn) :: (lx, instObj 722 dx) :: (dx, lexD w.params lt1 b false ev (Str.ofString "#") (WC b) pb fs io f sv ln tl tkx tt) :: rest))
  (hQ : ∀ h' v sv' tl' tk' tt' pos' t2' pbs' pn' k, Fr h₀ L h' m →
    News h₀ L h' ((io, instObj 587 iod) :: (iod, ioD w.params kt x pos' t2') :: (pb, dqO pbs' pn') :: (lx, instObj 722 dx) :: (dx, lexD w.params lt1 b false ev (Str.ofString "#") (WC b) pb fs io f sv' (rt b (fun c => (WC b).cps.toList.contains c) st [] rem ln).ln tl' tk' tt') :: rest) →
    tk' = S [] → SV (rt b (fun c => (WC b).cps.toList.contains c) st [] rem ln).st sv' → x.cps.toList.drop pos' = (rt b (fun c => (WC b).cps.toList.contains c) st [] rem ln).rem →
    RV b (rt b (fun c => (WC b).cps.toList.contains c) st [] rem ln).tok v → OV (rt b (fun c => (WC b).cps.toList.contains c) st [] rem ln).over pbs' pbs → Q v { s with heap := h', toks := k })
  : wpAny (model prog w) (ar hdl d (fenv ns ig ic mo gl cs qn fo cdv bi L :: outer) gs u) (call (.ref 690) [.ref lx]) Q E s := by
  have hremlen : rem.length ≤ 100000 := by rw [← hrem]; simp [Str.length] at hx ⊢; omega
  generalize htgt : rt b (fun c => (WC b).cps.toList.contains c) st [] rem ln = tgt at hQ
  refine wpAny_call ?_
  k_enter
  ktr_unf
  rename Fr _ _ _ _ => F1
  rename News _ _ _ _ => N1
  refine wl_while (σ := LS) (fun c => (io, instObj 587 iod) :: (iod, ioD w.params kt x c.pos c.tp) :: (pb, dqO c.pbs c.pn) :: (lx, instObj 722 dx) :: (dx, lexD w.params lt1 b false ev (Str.ofString "#") (WC b) pb fs io f c.sv c.ln c.tl c.tok c.tt) :: rest) (fun _ => []) [Str.ofString "nextchar"]
    (TkInv x b (fun c => (WC b).cps.toList.contains c) tgt pbs) (TkEnd x tgt pbs) (fun c => x.length - c.pos) ⟨sv, ln, tl, tkx, tt, pos, t2, pbs, pn⟩ F1 N1 ?_ ?_ ?_ ?_
  · intro p hp; cases hp
  · exact ⟨st, [], rem, hsv, htk, hrem, by simpa using hremlen, fun _ => rfl, fun h => absurd h hst, hok, htgt, rfl⟩
  · clear N1 F1 htgt hok hrem hremlen hsv hQ hst htk
    rintro ⟨sv, ln, tl, tok, tt, pos', tp, pbs', pn'⟩ u h tk ⟨st, l, rem, h5, h6, h7, h8, h9, h10, h11, h13, h14⟩ F2 N2
    dsimp only at h5 h6 h7 h8 h9 h10 h11 h13 h14 N2
    subst h6 h14
    have hpun : ∀ c, (Str.ofString "").cps.toList.contains c = false := fun c => by rw [S_nil]; rfl
    cases st with
    | fin =>
      have hr0 : rem = [] := h11
      subst hr0
      have hc : x.cps.toList.drop pos' = [] := h7
      subst h5
      rw [rt] at h13; subst h13
      k_steps
      all_goals ((try dsimp only [WlPost]); refine wl_at (σ := LS) ⟨_, _, _, _, _, _, _, _, _⟩ (by assumption) (by assumption) (fun p hp => hp) (fun p hp => nomatch hp) ?hr ?hp; (case hr => (intro z _ h3; have h4 : ¬ z = Str.ofString "nextchar" := (by intro e; subst e; simp at h3); simp only [kstB, h3, h4, if_false, Bool.false_eq_true])); (case hp => (exact ⟨[], S_nil, by simp, rfl, hc, rfl, rfl, rfl⟩)))
    | white =>
      obtain ⟨ts, rfl⟩ := h5
      have hl0 := h9 rfl
      subst hl0
      have hle : ([] : List Nat).isEmpty = true := rfl
      rcases RemW.two h11.choose_spec.choose_spec with rfl | ⟨r, ws', ld', rfl, hr⟩ | ⟨c, r, rfl, hc, hr⟩
      · rw [rt] at h13; subst h13
        k_steps
        all_goals ((try dsimp only [WlPost]); refine wl_at (σ := LS) ⟨_, _, _, _, _, _, _, _, _⟩ (by assumption) (by assumption) (fun p hp => hp) (fun p hp => nomatch hp) ?hr ?hp; (case hr => (intro z _ h3; have h4 : ¬ z = Str.ofString "nextchar" := (by intro e; subst e; simp at h3); simp only [kstB, h3, h4, if_false, Bool.false_eq_true])); (case hp => (exact ⟨[], rfl, by simp, rfl, h7, rfl, rfl, rfl⟩)))
      · obtain ⟨hd, hpl⟩ := drop_next h7
        have hpl : pos' + 1 ≤ x.length := by simpa [Str.length] using hpl
        have hws : (Str.ofString " \t\x0d\n").cps.toList.contains 10 = true := by decide +kernel
        have hc10 : ((10 : Nat) == 10) = true := rfl
        rw [rt] at h13; simp only [isWs, hws, hc10, if_true] at h13
        k_steps
        all_goals ((try dsimp only [WlPost]); refine wl_at (σ := LS) ⟨_, _, _, _, _, _, _, _, _⟩ (by assumption) (by assumption) (fun p hp => hp) (fun p hp => nomatch hp) ?hr ?hp; (case hr => (intro z _ h3; have h4 : ¬ z = Str.ofString "nextchar" := (by intro e; subst e; simp at h3); simp only [kstB, h3, h4, if_false, Bool.false_eq_true])); (case hp => (exact ⟨⟨.white, [], r, ⟨_, rfl⟩, rfl, hd, by simp at h8 ⊢; omega, fun _ => rfl, fun h => (by cases h), ⟨_, _, hr⟩, h13, rfl⟩, by dsimp only; omega⟩)))
      · obtain ⟨hd, hpl⟩ := drop_next h7
        have hpl : pos' + 1 ≤ x.length := by simpa [Str.length] using hpl
        obtain ⟨hws, hcm, hwc⟩ := ltr_ok hc
        have hwc := hwc b
        have hc10 : (c == 10) = false := by simp; omega
        obtain ⟨hqs, hes⟩ := ltr_plain hc
        have hpu := hpun c
        rw [rt] at h13; simp only [hws, hc10, hcm, hwc, if_true, if_false, Bool.false_eq_true] at h13
        unfold isWs at hws
        unfold isCm at hcm
        (repeat' (first | (k_unfold; (try dsimp only)) | ((fail_if_success (with_reducible show wpAny _ _ (compareOp CmpOp.In (Value.str (Str.mk #[_]) _) _) _ _ _)); walk1)))
        walk1
        (repeat' (first | (k_unfold; (try dsimp only)) | ((fail_if_success (with_reducible show wpAny _ _ (isTrue (Expr.BoolOp _ _ _) _ _) _ _ _)); walk1)))
        refine test_f ?_ (fun tk => ?_)
        · cases b
          all_goals k_steps
          all_goals exact ⟨rfl, _, rfl⟩
        k_steps
        all_goals ((try dsimp only [WlPost]); refine wl_at (σ := LS) ⟨_, _, _, _, _, _, _, _, _⟩ (by assumption) (by assumption) (fun p hp => hp) (fun p hp => nomatch hp) ?hr ?hp; (case hr => (intro z _ h3; have h4 : ¬ z = Str.ofString "nextchar" := (by intro e; subst e; simp at h3); simp only [kstB, h3, h4, if_false, Bool.false_eq_true])); (case hp => (exact ⟨⟨.word, [c], r, ⟨_, rfl⟩, rfl, hd, by simp at h8 ⊢; omega, fun h => (by cases h), fun _ => rfl, hr, h13, rfl⟩, by dsimp only; omega⟩)))
    | word =>
      obtain ⟨ts, rfl⟩ := h5
      have hle := h10 rfl
      obtain ⟨c, r, ws', ld', rfl, hc | hc, hr⟩ := h11
      · subst hc
        obtain ⟨hd, hpl⟩ := drop_next h7
        have hpl : pos' + 1 ≤ x.length := by simpa [Str.length] using hpl
        have hws : (Str.ofString " \t\x0d\n").cps.toList.contains 32 = true := by decide +kernel
        have hc10 : ((32 : Nat) == 10) = false := rfl
        rw [rt] at h13; simp only [isWs, hws, hc10, if_true, if_false, Bool.false_eq_true] at h13; subst h13
        k_steps
        all_goals ((try dsimp only [WlPost]); refine wl_at (σ := LS) ⟨_, _, _, _, _, _, _, _, _⟩ (by assumption) (by assumption) (fun p hp => List.Mem.tail _ hp) (fun p hp => nomatch hp) ?hr ?hp; (case hr => (intro z _ h3; have h4 : ¬ z = Str.ofString "nextchar" := (by intro e; subst e; simp at h3); simp only [kstB, h3, h4, if_false, Bool.false_eq_true])); (case hp => (exact ⟨l, rfl, by omega, ⟨_, rfl⟩, hd, rfl, rfl, rfl⟩)))
      · subst hc
        obtain ⟨hd, hpl⟩ := drop_next h7
        have hpl : pos' + 1 ≤ x.length := by simpa [Str.length] using hpl
        have hws : (Str.ofString " \t\x0d\n").cps.toList.contains 10 = true := by decide +kernel
        have hc10 : ((10 : Nat) == 10) = true := rfl
        rw [rt] at h13; simp only [isWs, hws, hc10, if_true] at h13; subst h13
        k_steps
        all_goals ((try dsimp only [WlPost]); refine wl_at (σ := LS) ⟨_, _, _, _, _, _, _, _, _⟩ (by assumption) (by assumption) (fun p hp => List.Mem.tail _ hp) (fun p hp => nomatch hp) ?hr ?hp; (case hr => (intro z _ h3; have h4 : ¬ z = Str.ofString "nextchar" := (by intro e; subst e; simp at h3); simp only [kstB, h3, h4, if_false, Bool.false_eq_true])); (case hp => (exact ⟨l, rfl, by omega, ⟨_, rfl⟩, hd, rfl, rfl, rfl⟩)))
  · rintro ⟨sv', ln', tl', tok, tt', pos', tp', pbs', pn'⟩ u h tk ⟨l, h6, h7, h8, h9, h10, h11, h12⟩ F2 N2
    dsimp only at h6 h8 h9 h10 h12 N2
    subst h6 h11 h10
    cases hle : tgt.tok.isEmpty
    all_goals k_steps
    all_goals (refine hQ _ _ _ _ _ _ _ _ _ _ _ (by assumption) (by assumption) S_nil h8 h9 ?_ h12)
    all_goals (first
      | (rename b = true => hb; subst hb; first | exact (by unfold RV; rw [hle]; exact rfl) | exact (by unfold RV; rw [hle]; exact ⟨_, rfl⟩))
      | (rename b = false => hb; subst hb; exact (by unfold RV; exact ⟨_, rfl⟩))
      | (rename ¬ b = true => hb; rw [Bool.not_eq_true] at hb; subst hb; exact (by unfold RV; exact ⟨_, rfl⟩)))
end
end Mine

end
section
local macro_rules | `(tactic| k_handed) => `(tactic| with_reducible assumption)
local macro_rules | `(tactic| walk_at "getAttr ref") => `(tactic| (k_here; k_dflt (refine' get_own ?k1 ?k2 ?k3 ?k4 ?k5 ?k6 ?k7 ?k8 ?k9 ?_; (case k1 => k_asm); (case k2 => k_asm); (case k3 => k_inst); (case k4 => k_is); (case k5 => k_is); (case k6 => k_is); (case k7 => k_is); (case k8 => k_get); (case k9 => k_handed); k_whole)))
local macro_rules | `(tactic| walk_at "callWith ref") => `(tactic| (k_here; first
  | ((with_reducible show wpAny _ _ (callWith _ _ _ (backTo _ (starEach [] _)) []) _ _ _); row_timed "R1c" (refine' callWith_K0 ?k1 ?k2 ?_); row_timed "R1k1" (case k1 => exact Frag.In.keeps (by with_reducible assumption) (Fr.keep (by assumption))); row_timed "R1k2" (case k2 => k_is); k_whole; (try dsimp only [List.nil_append, List.cons_append, List.append_nil]))
  | (row_timed "R2c" (refine' callWith_K ?k1 ?k2 ?_); row_timed "R2k1" (case k1 => k_asm); row_timed "R2k2" (case k2 => k_is); k_whole)))
local macro_rules | `(tactic| walk_at "execs nil") => `(tactic| (with_reducible refine wpAny_execs_nil ?_))
local macro_rules | `(tactic| walk_at "exec If") => `(tactic| ((try k_fold); with_reducible refine wpAny_If ?_))
local macro_rules | `(tactic| walk_at "ite") => `(tactic| first | with_reducible refine Mine.ite_t ?_ | with_reducible refine Mine.ite_f ?_)
local macro_rules | `(tactic| walk_at "execs cons") => `(tactic| ((try dsimp only); with_reducible refine wpAny_execs_cons ?_))
local macro_rules | `(tactic| walk_at "getMethod ref") => `(tactic| (k_here; (with_reducible show wpAny _ _ (getMethod (Value.ref _) (Str.ofString "appendleft") _) _ _ _); k_dflt (refine' Mine.dq_method Mine.dq_slot_appendleft Mine.dq_type_appendleft ?N ?m ?_; (case N => k_asm); (case m => k_mem); k_whole)))
local macro_rules | `(tactic| walk_at "getMethod ref") => `(tactic| (k_here; (with_reducible show wpAny _ _ (getMethod (Value.ref _) (Str.ofString "popleft") _) _ _ _); k_dflt (refine' Mine.dq_method Mine.dq_slot_popleft Mine.dq_type_popleft ?N ?m ?_; (case N => k_asm); (case m => k_mem); k_whole)))
local macro_rules | `(tactic| walk_at "call builtin:collections.deque.appendleft") => `(tactic| (k_here; k_dflt (refine' Mine.dq_appendleft ?F ?N ?U ?sz ?_; (case F => k_asm); (case N => k_asm); (case U => k_upd); (case sz => assumption); k_whole); intro h' F' N'; (try dsimp only); (try k_sweep)))
local macro_rules | `(tactic| walk_at "call builtin:collections.deque.popleft") => `(tactic| (k_here; k_dflt (refine' Mine.dq_popleft ?F ?N ?U ?sz ?_; (case F => k_asm); (case N => k_asm); (case U => k_upd); (case sz => assumption); k_whole); intro h' F' N'; (try dsimp only); (try k_sweep)))
local macro_rules | `(tactic| walk_at "truthy ref") => `(tactic| (k_here; k_dflt (refine' Mine.dq_truthy ?N ?m ?sz ?_; (case N => k_asm); (case m => k_mem); (case sz => first | assumption | (simp only [List.length_cons, List.length_nil]; omega)); k_whole); (try dsimp only [List.isEmpty_cons, List.isEmpty_nil, Bool.not_true, Bool.not_false])))
local macro_rules | `(tactic| walk_at "call ref") => `(tactic| (k_here; (with_reducible show wpAny _ _ (call (Value.ref 587) [Value.str _ _]) _ _ _); k_dflt (refine' Mine.io_make ?k1 ?k2 ?k3 ?k4 ?k5 ?k6 ?k7 ?k8 ?_; (case k1 => k_asm); (case k2 => k_asm); (case k3 => k_asm); (case k4 => k_asm); (case k5 => (first | k_room | k_units)); (case k6 => (first | k_room | k_units)); (case k7 => assumption); (case k8 => k_asm); k_whole); intro io' iod' h' kt' t' k' F' N' l1 l2; (try simp only [AllLt, and_true] at l1); (try k_sweep)))
namespace Mine
section
variable {w : World} {A₀ : Around} {base h₀ : Heap} {outer : List Env} {L : Addr} {m mg mb : Str → Option Value} {loose : List Str} {mean : ExcName → Option Value} {s : Shared} {Q E : Value → Shared → Prop} {p : Program}
  {hdl : Option Value} {d u : Nat} {gs : Option (List Code)} {rest : List (Addr × Obj)} {ns : List (Str × NameKind)} {ig ic : Bool} {mo : List (Str × Const)} {gl bi : Addr} {cs : List (Str × Addr)} {qn : Str} {fo : Option Addr} {cdv : Value}
theorem ps_sub {g h : Heap} {a b c e f t : Addr × Obj} {r : List (Addr × Obj)} (N : News g L h (a :: b :: c :: e :: f :: t :: r)) : News g L h (c :: e :: f :: r) := by
  intro q hq
  refine N q ?_
  simp only [List.mem_cons] at hq ⊢
  rcases hq with h | h | h | h <;> simp [h]
theorem ps_ord {g h : Heap} {t a b c e f : Addr × Obj} {r : List (Addr × Obj)} (N : News g L h (t :: a :: b :: c :: e :: f :: r)) : News g L h (a :: b :: c :: e :: f :: t :: r) := by
  intro q hq
  refine N q ?_
  simp only [List.mem_cons] at hq ⊢
  rcases hq with h | h | h | h | h | h | h <;> simp [h]
theorem pop4 {lx dx io iod pb fs tp0 io1 : Addr} {x wc : Str} {pos : Nat} {kt : IoT} {lt1 : LxT} {b : Bool} {ev f sv nv1 : Value} {ln ln1 : Int} {t2 tl tt tn1 : Tok} {tok : Str} {fvs : List Value} {fn : Int}
  (B : Below A₀ base outer h₀) (F : Fr h₀ L s.heap m) (X : (hd.heap_1 w.params).In h₀) (T : Top p loose mean mg mb h₀) (hdp : d < 900) (hun : u < 9000)
  (hf : fvs.length ≤ 900000)
  (n1 : @Ne Nat iod dx) (n2 : @Ne Nat iod fs) (n3 : @Ne Nat iod lx) (n4 : @Ne Nat iod tp0) (n5 : @Ne Nat dx lx) (n6 : @Ne Nat dx fs) (n7 : @Ne Nat dx tp0) (n8 : @Ne Nat fs lx) (n9 : @Ne Nat fs tp0) (n10 : @Ne Nat io iod) (n11 : @Ne Nat io dx) (n12 : @Ne Nat io fs)
  (r1 : ∀ p ∈ rest, p.1 ≠ iod) (r2 : ∀ p ∈ rest, p.1 ≠ dx) (r3 : ∀ p ∈ rest, p.1 ≠ fs)
  (N : News h₀ L s.heap ((io, instObj 587 iod) :: (iod, ioD w.params kt x pos t2) :: (lx, instObj 722 dx) :: (dx, lexD w.params lt1 b false ev (Str.ofString "#") wc pb fs io f sv ln tl tok tt) :: (fs, dqO (.ref tp0 :: fvs) fn) :: (tp0, { cls := .type "tuple", data := .seq #[nv1, .ref io1, .int ln1 tn1] }) :: rest))
  (hQ : ∀ h' ts k, Fr h₀ L h' m → News h₀ L h' ((lx, instObj 722 dx) :: (dx, lexD w.params lt1 b false ev (Str.ofString "#") wc pb fs io1 nv1 (.str (Str.ofString " ") ts) ln1 tn1 tok tt) :: (fs, dqO fvs (fn + 1)) :: rest) → Q .none { s with heap := h', toks := k })
  : wpAny (model prog w) (ar none d (fenv ns ig ic mo gl cs qn fo cdv bi L :: outer) gs u) (call (.ref 676) [.ref lx]) Q E s := by
  refine wpAny_call ?_
  k_enter
  (repeat' (first | (k_unfold; (try dsimp only)) | ((fail_if_success (with_reducible show wpAny _ _ (truthy _) _ _ _)); walk1)))
  k_steps
  rename Fr h₀ _ _ _ => F9
  rename News h₀ _ _ _ => N9
  exact hQ _ _ _ F9 (ps_sub N9)
theorem push4 {lx dx io pb fs : Addr} {x wc : Str} {lt1 : LxT} {b : Bool} {ev f sv nv : Value} {ln : Int} {tl tt tx : Tok} {tok : Str} {fvs : List Value} {fn : Int}
  (B : Below A₀ base outer h₀) (F : Fr h₀ L s.heap m) (X : (hd.heap_1 w.params).In h₀) (T : Top p loose mean mg mb h₀) (hdp : d < 900) (hun : u < 9000)
  (hx : x.length ≤ 100000) (hf : fvs.length ≤ 900000) (hfv : handedIn f = true)
  (n5 : @Ne Nat dx lx) (n6 : @Ne Nat dx fs) (n8 : @Ne Nat fs lx)
  (r2 : ∀ p ∈ rest, p.1 ≠ dx) (r3 : ∀ p ∈ rest, p.1 ≠ fs)
  (N : News h₀ L s.heap ((lx, instObj 722 dx) :: (dx, lexD w.params lt1 b false ev (Str.ofString "#") wc pb fs io f sv ln tl tok tt) :: (fs, dqO fvs fn) :: rest))
  (hQ : ∀ h' io' iod' tp kt' t' tl' k, Fr h₀ L h' m → News h₀ L h' ((io', instObj 587 iod') :: (iod', ioD w.params kt' x 0 t') :: (lx, instObj 722 dx) :: (dx, lexD w.params lt1 b false ev (Str.ofString "#") wc pb fs io' nv sv 1 tl' tok tt) :: (fs, dqO (.ref tp :: fvs) (fn + 1)) :: (tp, { cls := .type "tuple", data := .seq #[f, .ref io, .int ln tl] }) :: rest) →
    (@LT.lt Nat _ lx iod' ∧ @LT.lt Nat _ dx iod' ∧ @LT.lt Nat _ fs iod' ∧ AllLt iod' rest) → @LT.lt Nat _ iod' io' → (@LT.lt Nat _ io' tp ∧ @LT.lt Nat _ iod' tp ∧ @LT.lt Nat _ lx tp ∧ @LT.lt Nat _ dx tp ∧ @LT.lt Nat _ fs tp ∧ AllLt tp rest) → Q .none { s with heap := h', toks := k })
  : wpAny (model prog w) (ar none d (fenv ns ig ic mo gl cs qn fo cdv bi L :: outer) gs u) (call (.ref 669) [.ref lx, .str x tx, nv]) Q E s := by
  refine wpAny_call ?_
  k_enter
  (repeat' (first | (k_unfold; (try dsimp only)) | ((fail_if_success (with_reducible show wpAny _ _ (truthy (Value.int _ _)) _ _ _)); walk1)))
  k_steps
  rename Fr h₀ _ _ _ => F9
  rename News h₀ _ _ _ => N9
  rename _ ∧ _ ∧ _ ∧ _ ∧ _ ∧ AllLt _ rest => q3
  rename _ ∧ _ ∧ _ ∧ AllLt _ rest => q1
  exact hQ _ _ _ _ _ _ _ _ F9 (ps_ord N9) q1 (by assumption) q3
end
end Mine

end
section
namespace Mine
section
variable {w : World} {A₀ : Around} {base h₀ : Heap} {outer : List Env} {L : Addr} {m mg mb : Str → Option Value} {loose : List Str} {mean : ExcName → Option Value} {s : Shared} {Q E : Value → Shared → Prop} {p : Program}
  {hdl : Option Value} {d u : Nat} {gs : Option (List Code)} {rest : List (Addr × Obj)} {ns : List (Str × NameKind)} {ig ic : Bool} {mo : List (Str × Const)} {gl bi : Addr} {cs : List (Str × Addr)} {qn : Str} {fo : Option Addr} {cdv : Value}
structure L4 where
  io : Addr
  iod : Addr
  kt : IoT
  x : List Nat
  pos : Nat
  tp : Tok
  pbs : List Value
  pn : Int
  nv : Value
  sv : Value
  ln : Int
  tl : Tok
  tok : Str
  tt : Tok
  fvs : List Value
  fn : Int
abbrev led4 (P : Params) (T1 : LxT) (b : Bool) (ev : Value) (pb lx dx fs : Addr) (c : L4) : List (Addr × Obj) :=
  [(c.io, instObj 587 c.iod), (c.iod, ioD P c.kt (S c.x) c.pos c.tp), (pb, dqO c.pbs c.pn), (lx, instObj 722 dx), (dx, lexD P T1 b false ev (Str.ofString "#") (WC b) pb fs c.io c.nv c.sv c.ln c.tl c.tok c.tt), (fs, dqO c.fvs c.fn)]
/-- what lies beneath the topmost source, as the lexer keeps it -/
inductive StkAt (P : Params) (lx pb : Addr) : List Value → List Src → List (Addr × Obj) → Prop
  | nil : StkAt P lx pb [] [] []
  | cons (t io iod : Addr) (kt : IoT) (x : List Nat) (pos : Nat) (tp tn : Tok) (c : Src) {vs : List Value} {ss : List Src} {l : List (Addr × Obj)} : RemW (x.drop pos) c.ws c.ld → x.length ≤ 8 → handedIn c.nv = true → @LT.lt Nat _ lx iod → @LT.lt Nat _ iod io → StkAt P lx pb vs ss l →
      StkAt P lx pb (.ref t :: vs) (c :: ss) ((t, { cls := .type "tuple", data := .seq #[c.nv, .ref io, .int c.ln tn] }) :: (io, instObj 587 iod) :: (iod, ioD P kt (S x) pos tp) :: l)
theorem StkAt.length {P : Params} {lx pb : Addr} {vs : List Value} {ss : List Src} {l : List (Addr × Obj)} (h : StkAt P lx pb vs ss l) : vs.length = ss.length := by
  induction h with
  | nil => rfl
  | cons _ _ _ _ _ _ _ _ _ _ _ _ _ _ _ ih => simp [ih]
def Lx4 (P : Params) (lx pb : Addr) (c : L4) (ss : List Src) (stk : List (Addr × Obj)) : Prop :=
  ∃ t r st, ss = t :: r ∧ c.nv = t.nv ∧ c.ln = t.ln ∧ c.tok = S [] ∧ c.x.length ≤ 8 ∧ handedIn c.nv = true ∧ @LT.lt Nat _ lx c.iod ∧ @LT.lt Nat _ c.iod c.io ∧ SV st c.sv ∧ ((st = .white ∧ RemW (c.x.drop c.pos) t.ws t.ld) ∨ (st = .fin ∧ c.x.drop c.pos = [] ∧ r = [] ∧ t.ws = [] ∧ t.ld = 0)) ∧ StkAt P lx pb c.fvs r stk
def G4 (ev : Value) (o : Option Nat) (v : Value) : Prop := match o with
  | some c => ∃ t, v = .str (S [c]) t
  | none => v = ev
theorem lx_rt {b : Bool} {st : LSt} {rem : List Nat} {t : Src} {r : List Src} (h : (st = .white ∧ RemW rem t.ws t.ld) ∨ (st = .fin ∧ rem = [] ∧ r = [] ∧ t.ws = [] ∧ t.ld = 0)) :
  (∃ c e ws r', t.ws = (c, e) :: ws ∧ rt b (fun c => (WC b).cps.toList.contains c) st [] rem t.ln = ⟨[c], .white, r', t.ln + e, none⟩ ∧ RemW r' ws t.ld) ∨ (t.ws = [] ∧ rt b (fun c => (WC b).cps.toList.contains c) st [] rem t.ln = ⟨[], .fin, [], t.ln + t.ld, none⟩) := by
  rcases h with ⟨rfl, h⟩ | ⟨rfl, rfl, _, h1, h2⟩
  · generalize hw : t.ws = ws at h
    generalize hl : t.ld = ld at h
    cases h with
    | nil k => exact .inr ⟨rfl, rt_end k _⟩
    | cons k hc hs hr => exact .inl ⟨_, _, _, _, rfl, rt_word k _ _ _ _ hc hs, hr⟩
  · refine .inr ⟨h1, ?_⟩
    rw [h2, rt]
    simp
theorem while_twice {w : World} {A : Around} {E : Value → Shared → Prop} {Q : Flow → Shared → Prop} {s : Shared} {env : Env} {h₀ : Heap} {L : Addr} {test : Expr} {body : List Stmt} {pos : Pos} {m : Str → Option Value} {news : List (Addr × Obj)}
    (F : Fr h₀ L s.heap m) (N : News h₀ L s.heap news) (J0 : (Str → Option Value) → List (Addr × Obj) → Prop)
    (turn1 : ∀ h₁ tk₁, Fr h₀ L h₁ m → News h₀ L h₁ news →
      wpAny (model prog w) A (isTrue test env (eval test env)) (fun b s₂ =>
        if b = true then wpAny (model prog w) A (execs body env) (WhileStep2 h₀ L s (fun n m₁ nx => (n = 1 ∧ m₁ = m ∧ nx = news) ∨ (n = 0 ∧ J0 m₁ nx)) Q 1) E s₂ else Q .next s₂) E { s with heap := h₁, toks := tk₁ })
    (turn0 : ∀ m₁ nx h₁ tk₁, J0 m₁ nx → Fr h₀ L h₁ m₁ → News h₀ L h₁ nx →
      wpAny (model prog w) A (isTrue test env (eval test env)) (fun b s₂ =>
        if b = true then wpAny (model prog w) A (execs body env) (WhileStep2 h₀ L s (fun n m₁ nx => (n = 1 ∧ m₁ = m ∧ nx = news) ∨ (n = 0 ∧ J0 m₁ nx)) Q 0) E s₂ else Q .next s₂) E { s with heap := h₁, toks := tk₁ })
    (hE : PassesOwn (model prog w) A env E := by passes_own) :
    wpAny (model prog w) A (exec (.While test body [] pos) env) Q E s :=
  While_inv2 (n₀ := 1) (fun n m₁ nx => (n = 1 ∧ m₁ = m ∧ nx = news) ∨ (n = 0 ∧ J0 m₁ nx)) F N (.inl ⟨rfl, rfl, rfl⟩) (fun n m₁ nx h tk F₁ N₁ e => by
    rcases e with ⟨rfl, rfl, rfl⟩ | ⟨rfl, e⟩
    · exact turn1 h tk F₁ N₁
    · exact turn0 m₁ nx h tk e F₁ N₁) hE
theorem nd_pop {t io iod : Addr} {ot oi oj : Obj} {l : List (Addr × Obj)} (h : ND ((t, ot) :: (io, oi) :: (iod, oj) :: l)) : (∀ p ∈ l, p.1 ≠ t ∧ p.1 ≠ io ∧ p.1 ≠ iod) ∧ io ≠ iod ∧ t ≠ io ∧ t ≠ iod ∧ ND l := by
  unfold ND at h ⊢
  simp only [List.map_cons, List.nodup_cons, List.mem_cons, not_or] at h
  refine ⟨fun p hp => ?_, h.2.1.1, h.1.1, h.1.2.1, h.2.2.2⟩
  have hm : p.1 ∈ l.map (·.1) := List.mem_map_of_mem (f := (·.1)) hp
  exact ⟨fun e => h.1.2.2 (e ▸ hm), fun e => h.2.1.2 (e ▸ hm), fun e => h.2.2.1 (e ▸ hm)⟩
theorem pop_ord {g h : Heap} {L : Addr} {a b c d e f t : Addr × Obj} {r : List (Addr × Obj)} (N : News g L h (a :: b :: c :: d :: e :: f :: t :: r)) : News g L h (a :: b :: d :: e :: f :: t :: c :: r) := by
  intro q hq
  refine N q ?_
  simp only [List.mem_cons] at hq ⊢
  rcases hq with h | h | h | h | h | h | h | h <;> simp [h]
theorem pop_ord2 {g h : Heap} {L : Addr} {c d e f x y : Addr × Obj} {r : List (Addr × Obj)} (N : News g L h (d :: e :: f :: c :: x :: y :: r)) : News g L h (x :: y :: c :: d :: e :: f :: r) := by
  intro q hq
  refine N q ?_
  simp only [List.mem_cons] at hq ⊢
  rcases hq with h | h | h | h | h | h | h <;> simp [h]
structure Nd4 (io iod pb lx dx fs : Addr) (R : List (Addr × Obj)) : Prop where
  r : ∀ p ∈ R, p.1 ≠ io ∧ p.1 ≠ iod ∧ p.1 ≠ pb ∧ p.1 ≠ lx ∧ p.1 ≠ dx ∧ p.1 ≠ fs
  a : io ≠ iod ∧ io ≠ pb ∧ io ≠ lx ∧ io ≠ dx ∧ io ≠ fs ∧ iod ≠ pb ∧ iod ≠ lx ∧ iod ≠ dx ∧ iod ≠ fs
  n : ND R
theorem nd4 {P : Params} {T1 : LxT} {b : Bool} {ev : Value} {pb lx dx fs : Addr} {c : L4} {R : List (Addr × Obj)} (h : ND (led4 P T1 b ev pb lx dx fs c ++ R)) : Nd4 c.io c.iod pb lx dx fs R := by
  unfold ND at h
  rw [List.map_append, List.nodup_append] at h
  obtain ⟨h1, h2, h3⟩ := h
  simp only [led4, List.map_cons, List.map_nil, List.nodup_cons, List.mem_cons, List.not_mem_nil, or_false, not_or] at h1
  refine ⟨fun p hp => ?_, ?_, h2⟩
  · have hm : p.1 ∈ R.map (·.1) := List.mem_map_of_mem (f := (·.1)) hp
    exact ⟨Ne.symm (h3 c.io (.head _) _ hm), Ne.symm (h3 c.iod (.tail _ (.head _)) _ hm), Ne.symm (h3 pb (.tail _ (.tail _ (.head _))) _ hm), Ne.symm (h3 lx (.tail _ (.tail _ (.tail _ (.head _)))) _ hm), Ne.symm (h3 dx (.tail _ (.tail _ (.tail _ (.tail _ (.head _))))) _ hm), Ne.symm (h3 fs (.tail _ (.tail _ (.tail _ (.tail _ (.tail _ (.head _)))))) _ hm)⟩
  · exact ⟨h1.1.1, h1.1.2.1, h1.1.2.2.1, h1.1.2.2.2.1, h1.1.2.2.2.2, h1.2.1.1, h1.2.1.2.1, h1.2.1.2.2.1, h1.2.1.2.2.2⟩
/-- the distance between the lexer's own objects and the rest -/
def Ap4 (pb lx dx fs : Addr) : Prop := @LT.lt Nat _ dx lx ∧ @Ne Nat lx pb ∧ @Ne Nat dx pb ∧ @Ne Nat dx fs ∧ @Ne Nat fs lx ∧ @Ne Nat pb fs
theorem nd_led {P : Params} {T1 : LxT} {b : Bool} {ev : Value} {pb lx dx fs : Addr} {c : L4} {R : List (Addr × Obj)} (hap : Ap4 pb lx dx fs) (h1 : @Ne Nat c.io c.iod)
  (h2 : @Ne Nat c.io pb ∧ @Ne Nat c.io lx ∧ @Ne Nat c.io dx ∧ @Ne Nat c.io fs ∧ @Ne Nat c.iod pb ∧ @Ne Nat c.iod lx ∧ @Ne Nat c.iod dx ∧ @Ne Nat c.iod fs)
  (h3 : ∀ p ∈ R, p.1 ≠ c.io ∧ p.1 ≠ c.iod ∧ p.1 ≠ pb ∧ p.1 ≠ lx ∧ p.1 ≠ dx ∧ p.1 ≠ fs) (h4 : ND R) : ND (led4 P T1 b ev pb lx dx fs c ++ R) := by
  obtain ⟨p1, p2, p3, p4, p5, p6⟩ := hap
  have r0 : ND ((fs, dqO c.fvs c.fn) :: R) := nd_cons (fun p hp => (h3 p hp).2.2.2.2.2) h4
  have r1 : ND ((dx, lexD P T1 b false ev (Str.ofString "#") (WC b) pb fs c.io c.nv c.sv c.ln c.tl c.tok c.tt) :: (fs, dqO c.fvs c.fn) :: R) := nd_cons (List.forall_mem_cons.mpr ⟨Ne.symm p4, fun p hp => (h3 p hp).2.2.2.2.1⟩) r0
  have r2 := nd_cons (a := lx) (o := instObj 722 dx) (List.forall_mem_cons.mpr ⟨Nat.ne_of_lt p1, List.forall_mem_cons.mpr ⟨p5, fun p hp => (h3 p hp).2.2.2.1⟩⟩) r1
  have r3 := nd_cons (a := pb) (o := dqO c.pbs c.pn) (List.forall_mem_cons.mpr ⟨p2, List.forall_mem_cons.mpr ⟨p3, List.forall_mem_cons.mpr ⟨Ne.symm p6, fun p hp => (h3 p hp).2.2.1⟩⟩⟩) r2
  have r4 := nd_cons (a := c.iod) (o := ioD P c.kt (S c.x) c.pos c.tp) (List.forall_mem_cons.mpr ⟨Ne.symm h2.2.2.2.2.1, List.forall_mem_cons.mpr ⟨Ne.symm h2.2.2.2.2.2.1, List.forall_mem_cons.mpr ⟨Ne.symm h2.2.2.2.2.2.2.1, List.forall_mem_cons.mpr ⟨Ne.symm h2.2.2.2.2.2.2.2, fun p hp => (h3 p hp).2.1⟩⟩⟩⟩) r3
  exact nd_cons (a := c.io) (o := instObj 587 c.iod) (List.forall_mem_cons.mpr ⟨Ne.symm h1, List.forall_mem_cons.mpr ⟨Ne.symm h2.1, List.forall_mem_cons.mpr ⟨Ne.symm h2.2.1, List.forall_mem_cons.mpr ⟨Ne.symm h2.2.2.1, List.forall_mem_cons.mpr ⟨Ne.symm h2.2.2.2.1, fun p hp => (h3 p hp).1⟩⟩⟩⟩⟩) r4
theorem sne : ¬ Str.ofString "self" = Str.ofString "raw" := by decide +kernel
theorem g4_rv {b : Bool} {ev v : Value} {ch : Nat} (h : G4 ev (some ch) v) : RV b [ch] v := by
  obtain ⟨t, rfl⟩ := h
  unfold RV
  rw [List.isEmpty_cons, Bool.and_false]
  exact ⟨t, rfl⟩
theorem ev_rv {b : Bool} {ev : Value} (h : EV b ev) : RV b [] ev := by
  unfold EV at h
  unfold RV
  rw [List.isEmpty_nil, Bool.and_true]
  cases b with
  | true => exact h
  | false =>
    simp only [Bool.false_eq_true, if_false] at h ⊢
    obtain ⟨t, rfl⟩ := h
    exact ⟨t, by rw [S_nil]⟩
theorem next_none : ∀ (ss : List Src), ss ≠ [] → (nextS ss).1 = none → ∃ t, (nextS ss).2 = [t]
  | [], h, _ => absurd rfl h
  | t :: r, _, h => by
    unfold nextS at h ⊢
    cases hw : t.ws with
    | cons a q => rw [hw] at h; cases h
    | nil =>
      rw [hw] at h
      cases r with
      | nil => exact ⟨_, rfl⟩
      | cons a q => exact next_none (a :: q) (by simp) h
theorem lx_none {P : Params} {lx pb : Addr} {c : L4} {ss : List Src} {stk : List (Addr × Obj)} (hs : ss ≠ []) (h : (nextS ss).1 = none) (hP : Lx4 P lx pb c (nextS ss).2 stk) : c.fvs = [] := by
  obtain ⟨t0, e⟩ := next_none ss hs h
  rw [e] at hP
  obtain ⟨t, r, st, e2, _, _, _, _, _, _, _, _, _, hstk⟩ := hP
  cases e2
  have := hstk.length
  exact List.eq_nil_of_length_eq_zero this
theorem mm_ex {g h : Heap} {L lx : Addr} {m : Str → Option Value} {v : Value} (_F : Fr g L h m) (h1 : m (Str.ofString "raw") = some v) (h2 : m (Str.ofString "self") = some (.ref lx)) : ∃ mm, m = kstB mm [(Str.ofString "raw", v), (Str.ofString "self", .ref lx)] := by
  refine ⟨m, ?_⟩
  funext z
  refine (kstB_eq (fun p hp => ?_) fun _ => rfl).symm
  simp only [List.mem_cons, List.not_mem_nil, or_false] at hp
  rcases hp with rfl | rfl <;> assumption
theorem ev_handed4 {b : Bool} {ev : Value} (h : EV b ev) : handedIn ev = true := by
  unfold EV at h
  cases b with
  | true => simp only [if_true] at h; subst h; rfl
  | false => simp only [Bool.false_eq_true, if_false] at h; obtain ⟨t, rfl⟩ := h; rfl
theorem lx_plain {st : LSt} {rem : List Nat} {t : Src} {r : List Src} (h : (st = .white ∧ RemW rem t.ws t.ld) ∨ (st = .fin ∧ rem = [] ∧ r = [] ∧ t.ws = [] ∧ t.ld = 0)) : st ≠ .word ∧ Shp st rem := by
  rcases h with ⟨rfl, h⟩ | ⟨rfl, rfl, _⟩
  · exact ⟨by simp, _, _, h⟩
  · exact ⟨by simp, rfl⟩
end
end Mine
local macro_rules | `(tactic| k_handed) => `(tactic| with_reducible assumption)
local macro_rules | `(tactic| walk_at "getAttr ref") => `(tactic| (k_here; k_dflt (refine' get_own ?k1 ?k2 ?k3 ?k4 ?k5 ?k6 ?k7 ?k8 ?k9 ?_; (case k1 => k_asm); (case k2 => k_asm); (case k3 => k_inst); (case k4 => k_is); (case k5 => k_is); (case k6 => k_is); (case k7 => k_is); (case k8 => k_get); (case k9 => k_handed); k_whole)))
local macro_rules | `(tactic| walk_at "callWith ref") => `(tactic| (k_here; first
  | ((with_reducible show wpAny _ _ (callWith _ _ _ (backTo _ (starEach [] _)) []) _ _ _); row_timed "R1c" (refine' callWith_K0 ?k1 ?k2 ?_); row_timed "R1k1" (case k1 => exact Frag.In.keeps (by with_reducible assumption) (Fr.keep (by assumption))); row_timed "R1k2" (case k2 => k_is); k_whole; (try dsimp only [List.nil_append, List.cons_append, List.append_nil]))
  | (row_timed "R2c" (refine' callWith_K ?k1 ?k2 ?_); row_timed "R2k1" (case k1 => k_asm); row_timed "R2k2" (case k2 => k_is); k_whole)))
local macro_rules | `(tactic| walk_at "execs nil") => `(tactic| (with_reducible refine wpAny_execs_nil ?_))
local macro_rules | `(tactic| walk_at "exec If") => `(tactic| ((try k_fold); with_reducible refine wpAny_If ?_))
local macro_rules | `(tactic| walk_at "ite") => `(tactic| first | with_reducible refine Mine.ite_t ?_ | with_reducible refine Mine.ite_f ?_)
local macro_rules | `(tactic| walk_at "execs cons") => `(tactic| ((try dsimp only); with_reducible refine wpAny_execs_cons ?_))
local macro_rules | `(tactic| walk_at "getMethod ref") => `(tactic| (k_here; (with_reducible show wpAny _ _ (getMethod (Value.ref _) (Str.ofString "appendleft") _) _ _ _); k_dflt (refine' Mine.dq_method Mine.dq_slot_appendleft Mine.dq_type_appendleft ?N ?m ?_; (case N => k_asm); (case m => k_mem); k_whole)))
local macro_rules | `(tactic| walk_at "getMethod ref") => `(tactic| (k_here; (with_reducible show wpAny _ _ (getMethod (Value.ref _) (Str.ofString "popleft") _) _ _ _); k_dflt (refine' Mine.dq_method Mine.dq_slot_popleft Mine.dq_type_popleft ?N ?m ?_; (case N => k_asm); (case m => k_mem); k_whole)))
local macro_rules | `(tactic| walk_at "call builtin:collections.deque.appendleft") => `(tactic| (k_here; k_dflt (refine' Mine.dq_appendleft ?F ?N ?U ?sz ?_; (case F => k_asm); (case N => k_asm); (case U => k_upd); (case sz => assumption); k_whole); intro h' F' N'; (try dsimp only); (try k_sweep)))
local macro_rules | `(tactic| walk_at "call builtin:collections.deque.popleft") => `(tactic| (k_here; k_dflt (refine' Mine.dq_popleft ?F ?N ?U ?sz ?_; (case F => k_asm); (case N => k_asm); (case U => k_upd); (case sz => assumption); k_whole); intro h' F' N'; (try dsimp only); (try k_sweep)))
local macro_rules | `(tactic| walk_at "truthy ref") => `(tactic| (k_here; k_dflt (refine' Mine.dq_truthy ?N ?m ?sz ?_; (case N => k_asm); (case m => k_mem); (case sz => first | assumption | (simp only [List.length_cons, List.length_nil]; omega)); k_whole); (try dsimp only [List.isEmpty_cons, List.isEmpty_nil, Bool.not_true, Bool.not_false])))
local macro_rules | `(tactic| walk_at "call ref") => `(tactic| (k_here; (with_reducible show wpAny _ _ (call (Value.ref 587) [Value.str _ _]) _ _ _); k_dflt (refine' Mine.io_make ?k1 ?k2 ?k3 ?k4 ?k5 ?k6 ?k7 ?k8 ?_; (case k1 => k_asm); (case k2 => k_asm); (case k3 => k_asm); (case k4 => k_asm); (case k5 => (first | k_room | k_units)); (case k6 => (first | k_room | k_units)); (case k7 => assumption); (case k8 => k_asm); k_whole); intro io' iod' h' kt' t' k' F' N' l1 l2; (try simp only [AllLt, and_true] at l1); (try k_sweep)))
namespace Mine
section
variable {w : World} {lx dx pb fs : Addr} {T1 : LxT} {b : Bool} {ev : Value}
theorem gt4 (hap : Ap4 pb lx dx fs) (hev : EV b ev) (n : Nat) : ∀ {A₀ : Around} {base h₀ : Heap} {outer : List Env} {L : Addr} {m mg mb : Str → Option Value} {loose : List Str} {mean : ExcName → Option Value} {s : Shared} {Q E : Value → Shared → Prop} {p : Program}
  {d u : Nat} {gs : Option (List Code)} {rest : List (Addr × Obj)} {ns : List (Str × NameKind)} {ig ic : Bool} {mo : List (Str × Const)} {gl bi : Addr} {cs : List (Str × Addr)} {qn : Str} {fo : Option Addr} {cdv : Value} {c : L4} {ss : List Src} {stk : List (Addr × Obj)}
  (_B : Below A₀ base outer h₀) (_F : Fr h₀ L s.heap m) (_X : (hd.heap_1 w.params).In h₀) (_T : Top p loose mean mg mb h₀) (_hdp : d + 3 * n < 800) (_hun : u + 20 * n < 8000)
  (_hn : ss.length = n + 1) (_hP : Lx4 w.params lx pb c ss stk) (_hpb : c.pbs = []) (_hnd : ND (led4 w.params T1 b ev pb lx dx fs c ++ (stk ++ rest)))
  (_N : News h₀ L s.heap (led4 w.params T1 b ev pb lx dx fs c ++ (stk ++ rest)))
  (_hQ : ∀ h' v c' stk' k, Fr h₀ L h' m → News h₀ L h' (led4 w.params T1 b ev pb lx dx fs c' ++ (stk' ++ rest)) → ND (led4 w.params T1 b ev pb lx dx fs c' ++ (stk' ++ rest)) → Lx4 w.params lx pb c' (nextS ss).2 stk' → G4 ev (nextS ss).1 v → c'.pbs = [] → ((nextS ss).1 ≠ none → ∃ t, c'.sv = .str (Str.ofString " ") t) → Q v { s with heap := h', toks := k }),
  wpAny (model prog w) (ar none d (fenv ns ig ic mo gl cs qn fo cdv bi L :: outer) gs u) (call (.ref 683) [.ref lx]) Q E s := by
  induction n using Nat.strongRecOn with
  | ind n ih =>
    intro A₀ base h₀ outer L m mg mb loose mean s Q E p d u gs rest ns ig ic mo gl bi cs qn fo cdv c ss stk B F X T hdp hun hn hP hpb hnd N hQ
    obtain ⟨io, iod, kt, x, pos, tp, pbs, pn, nv, sv, ln, tl, tok, tt, fvs, fn⟩ := c
    obtain ⟨t, r, st, rfl, e1, e2, e3, hx8, hh, o2, o3, hsv, hcase, hstk⟩ := hP
    dsimp only at e1 e2 e3 hx8 hh o2 o3 hsv hcase hstk hpb
    subst hpb e2
    have hevh := ev_handed4 hev
    have hnd2 := nd4 hnd
    dsimp only at hnd2
    obtain ⟨nr, ⟨na1, na2, na3, na4, na5, na6, na7, na8, na9⟩, nn⟩ := hnd2
    have hfl := hstk.length
    have hrl : r.length = n := by simpa using hn
    have hf9 : fvs.length ≤ 900000 := by rw [hfl, hrl]; omega
    have q1 : ∀ p ∈ (fs, dqO fvs fn) :: (stk ++ rest), p.1 ≠ iod := List.forall_mem_cons.mpr ⟨Ne.symm na9, fun p hp => (nr p hp).2.1⟩
    have q2 : ∀ p ∈ (fs, dqO fvs fn) :: (stk ++ rest), p.1 ≠ dx := List.forall_mem_cons.mpr ⟨Ne.symm hap.2.2.2.1, fun p hp => (nr p hp).2.2.2.2.1⟩
    have q3 : ∀ p ∈ (fs, dqO fvs fn) :: (stk ++ rest), p.1 ≠ pb := List.forall_mem_cons.mpr ⟨Ne.symm hap.2.2.2.2.2, fun p hp => (nr p hp).2.2.1⟩
    dsimp only [led4, List.cons_append, List.nil_append] at N
    have hpl := lx_plain hcase
    have hrt := lx_rt (b := b) hcase
    refine wpAny_call ?_
    k_enter
    (repeat' (first | (k_unfold; (try dsimp only)) | ((fail_if_success (with_reducible show wpAny _ _ (call (Value.ref 690) [Value.ref _]) _ _ _)); walk1)))
    refine' rtok (x := S x) ?k1 ?k2 ?k3 ?k4 ?k5 ?k6 (by simp [S, Str.length]; omega) hap.1 o2 o3 na2 na6 hap.2.1 hap.2.2.1 q1 q2 q3 hsv rfl hpl.1 hpl.2 ?k20 e3 ?k22 ?_
    case k22 => with_reducible assumption
    case k20 => exact Nat.zero_le _
    case k1 => with_reducible assumption
    case k2 => with_reducible assumption
    case k3 => with_reducible assumption
    case k4 => with_reducible assumption
    case k5 => k_room
    case k6 => k_units
    intro h' v' sv' tl' tk' tt' pos' t2' pbs' pn' k' F' N' e1' e2' e3' hRV e5'
    have hS : (S x).cps.toList = x := by simp [S]
    rw [hS] at N' e2' e3' hRV e5'
    clear N
    (repeat' (first | (k_unfold; (try dsimp only)) | ((fail_if_success (with_reducible show wpAny _ _ (exec (Stmt.While _ _ _ _) _) _ _ _)); walk1)))
    rename Fr _ _ _ _ => F1
    rename News _ _ _ _ => N1
    rcases hrt with ⟨c, e, ws, r', hw, hr, hrem⟩ | ⟨hw, hr⟩
    · rw [hr] at N1 e2' e3' hRV e5'
      dsimp only at N1 e2' e3' hRV e5'
      have e5 : pbs' = [] := e5'
      subst e5
      have hnx : nextS (t :: r) = (some c, { t with ws := ws, ln := t.ln + e } :: r) := by unfold nextS; rw [hw]
      rw [hnx] at hQ
      dsimp only at hQ
      refine while_once F1 N1 ?_ (by passes_own)
      intro h tk F2 N2
      clear F1 N1
      (repeat' (first | (k_unfold; (try dsimp only)) | ((fail_if_success (with_reducible show wpAny _ _ (compareOp CmpOp.Eq _ _) _ _ _)); walk1)))
      refine eq_end hRV hev ?_
      rw [List.isEmpty_cons]
      k_steps
      refine hQ h _ ⟨io, iod, kt, x, pos', t2', [], pn', nv, sv', t.ln + e, tl', tk', tt', fvs, fn⟩ stk _ (by assumption) (by assumption) hnd ⟨_, r, .white, rfl, e1, rfl, e1', hx8, hh, o2, o3, e2', .inl ⟨rfl, ?_⟩, hstk⟩ (rv_gv (ev := ev) hRV rfl) rfl (fun _ => e2')
      dsimp only
      rw [e3']
      exact hrem
    · rw [hr] at N1 e2' e3' hRV e5'
      dsimp only at N1 e2' e3' hRV e5'
      have e5 : pbs' = [] := e5'
      subst e5
      cases r with
      | nil =>
        have hnx : nextS [t] = (none, [{ t with ln := t.ln + t.ld, ld := 0 }]) := by unfold nextS; rw [hw]
        rw [hnx] at hQ
        dsimp only at hQ
        have hfv : fvs = [] := List.eq_nil_of_length_eq_zero (by rw [hfl]; rfl)
        subst hfv
        refine while_once F1 N1 ?_ (by passes_own)
        intro h tk F2 N2
        clear F1 N1
        (repeat' (first | (k_unfold; (try dsimp only)) | ((fail_if_success (with_reducible show wpAny _ _ (compareOp CmpOp.Eq _ _) _ _ _)); walk1)))
        refine eq_end hRV hev ?_
        rw [List.isEmpty_nil]
        k_steps
        dsimp only
        k_steps
        dsimp only [WhileStep2]
        k_steps
        refine hQ h _ ⟨io, iod, kt, x, pos', t2', [], pn', nv, sv', t.ln + t.ld, tl', tk', tt', [], fn⟩ stk _ (by assumption) (by assumption) hnd ⟨_, [], .fin, rfl, e1, rfl, e1', hx8, hh, o2, o3, e2', .inr ⟨rfl, e3', rfl, hw, rfl⟩, hstk⟩ rfl rfl (fun h => absurd rfl h)
      | cons t2 r2 =>
        have hnx : nextS (t :: t2 :: r2) = nextS (t2 :: r2) := by conv => lhs; unfold nextS; rw [hw]
        rw [hnx] at hQ
        cases hstk with
        | @cons tpa io2 iod2 kt2 x2 pos2 tp2 tn2 _ vs _ l g1 g2 g3 g4 g5 g6 =>
        have hpp := nd_pop nn
        refine while_twice F1 N1 (fun m₁ nx => ∃ v c' stk' mm, m₁ = kstB mm [(Str.ofString "raw", v), (Str.ofString "self", .ref lx)] ∧ nx = led4 w.params T1 b ev pb lx dx fs c' ++ (stk' ++ rest) ∧ Lx4 w.params lx pb c' (nextS (t2 :: r2)).2 stk' ∧ G4 ev (nextS (t2 :: r2)).1 v ∧ c'.pbs = [] ∧ ND (led4 w.params T1 b ev pb lx dx fs c' ++ (stk' ++ rest)) ∧ ((nextS (t2 :: r2)).1 ≠ none → ∃ t, c'.sv = .str (Str.ofString " ") t)) ?_ ?_
        · intro h tk F2 N2
          clear F1 N1
          (repeat' (first | (k_unfold; (try dsimp only)) | ((fail_if_success (with_reducible show wpAny _ _ (compareOp CmpOp.Eq _ _) _ _ _)); walk1)))
          refine eq_end hRV hev ?_
          rw [List.isEmpty_nil]
          (repeat' (first | (k_unfold; (try dsimp only)) | ((fail_if_success (with_reducible show wpAny _ _ (call (Value.ref 676) [Value.ref _]) _ _ _)); walk1)))
          rename Fr _ _ _ _ => F3
          rename News _ _ _ _ => N3
          have k1 := nr (tpa, _) (.head _)
          have k2 := nr (io2, _) (.tail _ (.head _))
          have k3 := nr (iod2, _) (.tail _ (.tail _ (.head _)))
          have k4 : ∀ p ∈ l ++ rest, p.1 ≠ io ∧ p.1 ≠ iod ∧ p.1 ≠ pb ∧ p.1 ≠ lx ∧ p.1 ≠ dx ∧ p.1 ≠ fs := fun p hp => nr p (.tail _ (.tail _ (.tail _ hp)))
          dsimp only at k1 k2 k3
          refine' pop4 (x := S x) (wc := WC b) (rest := (pb, dqO [] pn') :: (io2, instObj 587 iod2) :: (iod2, ioD w.params kt2 (S x2) pos2 tp2) :: (l ++ rest)) ?b1 F3 ?b3 ?b4 ?b5 ?b6 ?b7 na8 na9 na7 (Ne.symm k1.2.1) (Nat.ne_of_lt hap.1) hap.2.2.2.1 (Ne.symm k1.2.2.2.2.1) hap.2.2.2.2.1 (Ne.symm k1.2.2.2.2.2) na1 na4 na5 ?c1 ?c2 ?c3 (pop_ord N3) ?_
          case b1 => k_asm
          case b3 => k_asm
          case b4 => k_asm
          case b5 => k_room
          case b6 => k_units
          case b7 => (simp only [List.length_cons] at hf9; omega)
          case c1 => exact List.forall_mem_cons.mpr ⟨Ne.symm na6, List.forall_mem_cons.mpr ⟨k2.2.1, List.forall_mem_cons.mpr ⟨k3.2.1, fun p hp => (k4 p hp).2.1⟩⟩⟩
          case c2 => exact List.forall_mem_cons.mpr ⟨Ne.symm hap.2.2.1, List.forall_mem_cons.mpr ⟨k2.2.2.2.2.1, List.forall_mem_cons.mpr ⟨k3.2.2.2.2.1, fun p hp => (k4 p hp).2.2.2.2.1⟩⟩⟩
          case c3 => exact List.forall_mem_cons.mpr ⟨hap.2.2.2.2.2, List.forall_mem_cons.mpr ⟨k2.2.2.2.2.2, List.forall_mem_cons.mpr ⟨k3.2.2.2.2.2, fun p hp => (k4 p hp).2.2.2.2.2⟩⟩⟩
          intro h5 ts5 k5 F5 N5
          clear F3 N3
          have N6 := pop_ord2 N5
          clear N5
          (repeat' (first | (k_unfold; (try dsimp only)) | ((fail_if_success (with_reducible show wpAny _ _ (call (Value.ref 683) [Value.ref _]) _ _ _)); walk1)))
          refine' ih (n - 1) ?d0 (c := ⟨io2, iod2, kt2, x2, pos2, tp2, [], pn', t2.nv, .str (Str.ofString " ") ts5, t2.ln, tn2, tk', tt', vs, fn + 1⟩) (ss := t2 :: r2) (stk := l) ?d1 F5 ?d3 ?d4 ?d5 ?d6 ?d7 ?d8 rfl ?d9 N6 ?_
          case d0 => (simp only [List.length_cons] at hrl; omega)
          case d1 => k_asm
          case d3 => k_asm
          case d4 => k_asm
          case d5 => (simp only [List.length_cons] at hrl; k_room)
          case d6 => (simp only [List.length_cons] at hrl; k_units)
          case d7 => (simp only [List.length_cons] at hrl ⊢; omega)
          case d8 => exact ⟨t2, r2, .white, rfl, rfl, rfl, e1', g2, g3, g4, g5, ⟨_, rfl⟩, .inl ⟨rfl, g1⟩, g6⟩
          case d9 => exact nd_led hap hpp.2.1 ⟨k2.2.2.1, k2.2.2.2.1, k2.2.2.2.2.1, k2.2.2.2.2.2, k3.2.2.1, k3.2.2.2.1, k3.2.2.2.2.1, k3.2.2.2.2.2⟩ (fun p hp => ⟨(hpp.1 p hp).2.1, (hpp.1 p hp).2.2, (k4 p hp).2.2⟩) hpp.2.2.2.2
          intro h7 v7 c7 stk7 k7 F7 N7 D7 P7 G7 B7 S7
          k_steps
          rename Fr _ _ _ _ => F8
          rename News _ _ _ _ => N8
          obtain ⟨mm, hmm⟩ := mm_ex F8 (v := v7) (lx := lx) (if_pos rfl) (by simp only [sne, if_false]; rfl)
          exact ⟨_, _, _, _, 0, rfl, F8, N8, by decide, .inr ⟨rfl, v7, c7, stk7, mm, hmm, rfl, P7, G7, B7, D7, S7⟩⟩
        · rintro m₁ nx h tk ⟨v7, ⟨io7, iod7, kt7, x7, pos7, tp7, pbs7, pn7, nv7, sv7, ln7, tl7, tok7, tt7, fvs7, fn7⟩, stk7, mm, rfl, rfl, P7, G7, B7, D7, S7⟩ F2 N2
          dsimp only at B7
          subst B7
          clear F1 N1
          have N9 := N2
          dsimp only [led4, List.cons_append, List.nil_append] at N2
          (repeat' (first | (k_unfold; (try dsimp only)) | ((fail_if_success (with_reducible show wpAny _ _ (compareOp CmpOp.Eq _ _) _ _ _)); walk1)))
          cases ho : (nextS (t2 :: r2)).1 with
          | some ch =>
            rw [ho] at G7
            refine eq_end (g4_rv G7) hev ?_
            rw [List.isEmpty_cons]
            k_steps
            exact hQ h _ _ stk7 _ (by assumption) (by assumption) D7 P7 (by rw [ho]; exact G7) rfl S7
          | none =>
            rw [ho] at G7
            have e7 : v7 = ev := G7
            subst e7
            have hfv : fvs7 = [] := lx_none (by simp) ho P7
            subst hfv
            refine eq_end (ev_rv hev) hev ?_
            rw [List.isEmpty_nil]
            k_steps
            dsimp only
            k_steps
            dsimp only [WhileStep2]
            k_steps
            exact hQ h _ _ stk7 _ (by assumption) (by assumption) D7 P7 (by rw [ho]; rfl) rfl S7
end
end Mine

end
section
namespace Mine
section
variable {w : World} {A : Around} {E : Value → Shared → Prop} {s : Shared} {Q : Value → Shared → Prop} {b L : Addr} {h₀ : Heap} {news : List (Addr × Obj)} {t u v : Tok}
theorem pc_s {y : Str} {ln : Int} (hy : y.length ≤ 1000000) (hl0 : 0 ≤ ln) (hl1 : ln < 10 ^ 10) (N : News h₀ L s.heap news) (hb : (b, ({ cls := .type "tuple", data := .seq #[.str y t, .int ln u] } : Obj)) ∈ news)
  (h : ∀ t' k, Q (.str (Str.ofString "\"" ++ y ++ Str.ofString "\", line " ++ Str.ofString (toString ln) ++ Str.ofString ": ") t') { s with toks := k }) : wpAny (model prog w) A (binaryOp .Mod (.str (Str.ofString "\"%s\", line %d: ") v) (.ref b)) Q E s := by
  refine' KPt.mod_tuple ?kptN ?kptb ?kptF ?kptm ?_
  case kptN => exact N
  case kptb => exact hb
  case kptF => kpt_eq
  case kptm => kpt_run
  exact h
theorem strOf_none {prog' : Program} {Q : Value → Shared → Prop} (h : Q (.str (Str.ofString "None") s.toks) { s with toks := s.toks + 1 }) : wpAny (model prog' w) A (PySem.Builtin.Str.strOf .none) Q E s :=
  wpAny_strOf_gives rfl (typeIs_none s) F.slot_NoneType_str F.slot_NoneType_repr F.entry_NoneType_repr (F.args_NoneType_repr_1 _) gives_none_repr h (hsz := by decide)
theorem pc_n {ln : Int} (hl0 : 0 ≤ ln) (hl1 : ln < 10 ^ 10) (N : News h₀ L s.heap news) (hb : (b, ({ cls := .type "tuple", data := .seq #[.none, .int ln u] } : Obj)) ∈ news)
  (h : ∀ t' k, Q (.str (Str.ofString "\"" ++ Str.ofString "None" ++ Str.ofString "\", line " ++ Str.ofString (toString ln) ++ Str.ofString ": ") t') { s with toks := k }) : wpAny (model prog w) A (binaryOp .Mod (.str (Str.ofString "\"%s\", line %d: ") v) (.ref b)) Q E s := by
  refine' KPt.mod_tuple ?kptN ?kptb ?kptF ?kptm ?_
  case kptN => exact N
  case kptb => exact hb
  case kptF => kpt_eq
  case kptm =>
    apply KPt.meets_tup
    intro _ _ _ _ _ _ kptH _
    obtain ⟨kptO, kptG, kptC, kptN, kptD⟩ := kptH
    rw [KPt.entry_is_r]
    unfold Builtin.Str.percentFormat
    refine wpAny_bind (wpAny_isInstance (T := "tuple") ⟨kptO, kptG, kptC⟩ KPt.sub_tt ?_)
    refine wpAny_bind (KPt.asStr_ref kptG kptD ?_)
    refine wpAny_bind (KPt.fills_ref ⟨kptO, kptG, kptC⟩ ?_)
    intro _
    kpc_if
    refine wpAny_bind (wpAny_seqItems kptG kptD ?_)
    refine wpAny_bind (wpAny_pure ?_)
    refine wpAny_bind ?_
    rw [KPc.range_list]
    refine KPc.start ?_
    intro _ _
    (refine KPc.turn ?_; kpc_check; (repeat kpc_if))
    refine wpAny_pure ?_
    kpt_piece
    (refine KPc.turn ?_; kpc_check; (repeat kpc_if))
    refine wpAny_bind ?_
    refine wpAny_holding ?_
    (repeat kpc_if)
    refine wpAny_bind (Mine.strOf_none ?_)
    refine wpAny_bind (wpAny_of_eq (a := some _) rfl ?_)
    refine wpAny_pure ?_
    refine wpAny_pure ?_
    kpt_piece
    kpt_turns
  exact h
end
end Mine

end
section
namespace Mine
def nmS : Value → Str
  | .str y _ => y
  | _ => Str.ofString "None"
def leadS (nv : Value) (ln : Int) : Str := Str.ofString "\"" ++ nmS nv ++ Str.ofString "\", line " ++ Str.ofString (toString ln) ++ Str.ofString ": "
theorem nmS_len {nv : Value} (h : NmOk nv) : (nmS nv).length ≤ 10 := by
  rcases h with rfl | ⟨y, t, rfl, rfl | rfl | rfl⟩
  · show (Str.ofString "None").length ≤ 10
    decide +kernel
  · show (Str.ofString "one").length ≤ 10
    decide +kernel
  · show (Str.ofString "two").length ≤ 10
    decide +kernel
  · show (Str.ofString "a b").length ≤ 10
    decide +kernel
section
variable {w : World} {A : Around} {E : Value → Shared → Prop} {s : Shared} {Q : Value → Shared → Prop}
theorem pc_lead {nv : Value} {ln : Int} {b L : Addr} {h₀ : Heap} {news : List (Addr × Obj)} {u v : Tok} (hnm : NmOk nv) (hl0 : 0 ≤ ln) (hl1 : ln < 10 ^ 10) (N : News h₀ L s.heap news) (hb : (b, ({ cls := .type "tuple", data := .seq #[nv, .int ln u] } : Obj)) ∈ news)
  (h : ∀ t' k, Q (.str (leadS nv ln) t') { s with toks := k }) : wpAny (model prog w) A (binaryOp .Mod (.str (Str.ofString "\"%s\", line %d: ") v) (.ref b)) Q E s := by
  rcases hnm with rfl | ⟨y, t, rfl, hy⟩
  · exact pc_n hl0 hl1 N hb h
  · have hl := nmS_len (.inr ⟨y, t, rfl, hy⟩)
    exact pc_s (by have : y.length ≤ 10 := hl; omega) hl0 hl1 N hb h
theorem str_nm {nv : Value} (hnm : NmOk nv) (h : ∀ t k, Q (.str (nmS nv) t) { s with toks := k }) : wpAny (model prog w) A (call (.type "str") [nv]) Q E s := by
  rcases hnm with rfl | ⟨y, t, rfl, hy⟩
  · exact P.str_of_none (h _ _)
  · exact P.str_of_str (h _ _)
theorem str_ln {ln : Int} {u : Tok} (hl0 : 0 ≤ ln) (hl1 : ln < 10 ^ 10) (h : ∀ t k, Q (.str (Str.ofString (toString ln)) t) { s with toks := k }) : wpAny (model prog w) A (call (.type "str") [.int ln u]) Q E s :=
  P.str_of_int (shown (N := 2 ^ 1920) (by omega) (by omega) (Int.le_refl _)) (h _ _)
theorem eq_self {x : Str} {t u : Tok} (h : Q (.bool true) s) : wpAny (model prog w) A (compareOp .Eq (.str x t) (.str x u)) Q E s := P.eq_str (by simpa using h)
theorem add_st {x y : Str} {t u : Tok} (hx : x.length ≤ 1000) (hy : y.length ≤ 1000) (h : ∀ t k, Q (.str (x ++ y) t) { s with toks := k }) : wpAny (model prog w) A (binaryOp .Add (.str x t) (.str y u)) Q E s :=
  PyProof.Rows.add_str h (by rw [PySem.sizeLine_eq]; omega)
theorem last_item {h₀ : Heap} {L a : Addr} {news : List (Addr × Obj)} {value slice : Expr} {u : Tok} {us : List Value} {v : Value} {k : Nat} (N : News h₀ L s.heap news) (hm : (a, listOf (us ++ [v]).toArray k) ∈ news) (h : Q v s)
  (hs : subscripted slice false (.ref a) (.int (-1) u) = operate [.ref a, .int (-1) u] (getItem (.ref a) (.int (-1) u))) : wpAny (model prog w) A (subscriptTail value slice (.ref a) (.int (-1) u)) Q E s :=
  kde_neg (j := us.length) ⟨_, N.get hm, rfl, k, rfl⟩ (by decide) (by decide) (by
    have h1 := PySem.seqIndex_neg (k := -1) (n := (us ++ [v]).length) (by decide) (by simp; omega)
    rw [h1]
    congr 1
    simp; omega) (by simp) h hs
theorem app_len {x y : Str} : (x ++ y).length = x.length + y.length := by
  show (Str.append x y).length = _
  simp [Str.append, Str.length]
theorem ln_len {ln : Int} (hl0 : 0 ≤ ln) (hl1 : ln < 10 ^ 10) : (Str.ofString (toString ln)).length ≤ 10 := toString_length_le (k := 10) hl0 (by decide) hl1
end
end Mine
local macro_rules | `(tactic| k_handed) => `(tactic| with_reducible assumption)
local macro_rules | `(tactic| walk_at "getAttr ref") => `(tactic| (k_here; k_dflt (refine' get_own ?k1 ?k2 ?k3 ?k4 ?k5 ?k6 ?k7 ?k8 ?k9 ?_; (case k1 => k_asm); (case k2 => k_asm); (case k3 => k_inst); (case k4 => k_is); (case k5 => k_is); (case k6 => k_is); (case k7 => k_is); (case k8 => k_get); (case k9 => k_handed); k_whole)))
local macro_rules | `(tactic| walk_at "callWith ref") => `(tactic| (k_here; first
  | ((with_reducible show wpAny _ _ (callWith _ _ _ (backTo _ (starEach [] _)) []) _ _ _); row_timed "R1c" (refine' callWith_K0 ?k1 ?k2 ?_); row_timed "R1k1" (case k1 => exact Frag.In.keeps (by with_reducible assumption) (Fr.keep (by assumption))); row_timed "R1k2" (case k2 => k_is); k_whole; (try dsimp only [List.nil_append, List.cons_append, List.append_nil]))
  | (row_timed "R2c" (refine' callWith_K ?k1 ?k2 ?_); row_timed "R2k1" (case k1 => k_asm); row_timed "R2k2" (case k2 => k_is); k_whole)))
local macro_rules | `(tactic| walk_at "execs nil") => `(tactic| (with_reducible refine wpAny_execs_nil ?_))
local macro_rules | `(tactic| walk_at "exec If") => `(tactic| ((try k_fold); with_reducible refine wpAny_If ?_))
local macro_rules | `(tactic| walk_at "ite") => `(tactic| first | with_reducible refine Mine.ite_t ?_ | with_reducible refine Mine.ite_f ?_)
local macro_rules | `(tactic| walk_at "execs cons") => `(tactic| ((try dsimp only); with_reducible refine wpAny_execs_cons ?_))
local macro_rules | `(tactic| walk_at "getMethod ref") => `(tactic| (k_here; (with_reducible show wpAny _ _ (getMethod (Value.ref _) (Str.ofString "appendleft") _) _ _ _); k_dflt (refine' Mine.dq_method Mine.dq_slot_appendleft Mine.dq_type_appendleft ?N ?m ?_; (case N => k_asm); (case m => k_mem); k_whole)))
local macro_rules | `(tactic| walk_at "getMethod ref") => `(tactic| (k_here; (with_reducible show wpAny _ _ (getMethod (Value.ref _) (Str.ofString "popleft") _) _ _ _); k_dflt (refine' Mine.dq_method Mine.dq_slot_popleft Mine.dq_type_popleft ?N ?m ?_; (case N => k_asm); (case m => k_mem); k_whole)))
local macro_rules | `(tactic| walk_at "call builtin:collections.deque.appendleft") => `(tactic| (k_here; k_dflt (refine' Mine.dq_appendleft ?F ?N ?U ?sz ?_; (case F => k_asm); (case N => k_asm); (case U => k_upd); (case sz => assumption); k_whole); intro h' F' N'; (try dsimp only); (try k_sweep)))
local macro_rules | `(tactic| walk_at "call builtin:collections.deque.popleft") => `(tactic| (k_here; k_dflt (refine' Mine.dq_popleft ?F ?N ?U ?sz ?_; (case F => k_asm); (case N => k_asm); (case U => k_upd); (case sz => assumption); k_whole); intro h' F' N'; (try dsimp only); (try k_sweep)))
local macro_rules | `(tactic| walk_at "truthy ref") => `(tactic| (k_here; k_dflt (refine' Mine.dq_truthy ?N ?m ?sz ?_; (case N => k_asm); (case m => k_mem); (case sz => first | assumption | (simp only [List.length_cons, List.length_nil]; omega)); k_whole); (try dsimp only [List.isEmpty_cons, List.isEmpty_nil, Bool.not_true, Bool.not_false])))
local macro_rules | `(tactic| walk_at "call ref") => `(tactic| (k_here; (with_reducible show wpAny _ _ (call (Value.ref 587) [Value.str _ _]) _ _ _); k_dflt (refine' Mine.io_make ?k1 ?k2 ?k3 ?k4 ?k5 ?k6 ?k7 ?k8 ?_; (case k1 => k_asm); (case k2 => k_asm); (case k3 => k_asm); (case k4 => k_asm); (case k5 => (first | k_room | k_units)); (case k6 => (first | k_room | k_units)); (case k7 => assumption); (case k8 => k_asm); k_whole); intro io' iod' h' kt' t' k' F' N' l1 l2; (try simp only [AllLt, and_true] at l1); (try k_sweep)))
namespace Mine
section
variable {w : World} {A₀ : Around} {base h₀ : Heap} {outer : List Env} {L : Addr} {m mg mb : Str → Option Value} {loose : List Str} {mean : ExcName → Option Value} {s : Shared} {Q E : Value → Shared → Prop} {p : Program}
  {hdl : Option Value} {d u : Nat} {gs : Option (List Code)} {rest : List (Addr × Obj)} {ns : List (Str × NameKind)} {ig ic : Bool} {mo : List (Str × Const)} {gl bi : Addr} {cs : List (Str × Addr)} {qn : Str} {fo : Option Addr} {cdv : Value}
theorem el4 {lx dx io pb fs : Addr} {wc : Str} {lt1 : LxT} {b : Bool} {ev sv nv : Value} {ln : Int} {tl tt : Tok} {tok : Str}
  (B : Below A₀ base outer h₀) (F : Fr h₀ L s.heap m) (X : (hd.heap_1 w.params).In h₀) (T : Top p loose mean mg mb h₀) (hdp : d < 900) (hun : u < 9000)
  (hfv : handedIn nv = true) (hnm : NmOk nv) (hl0 : 0 ≤ ln) (hl1 : ln < 10 ^ 10)
  (N : News h₀ L s.heap ((lx, instObj 722 dx) :: (dx, lexD w.params lt1 b false ev (Str.ofString "#") wc pb fs io nv sv ln tl tok tt) :: rest))
  (hQ : ∀ h' t k, Fr h₀ L h' m → News h₀ L h' ((lx, instObj 722 dx) :: (dx, lexD w.params lt1 b false ev (Str.ofString "#") wc pb fs io nv sv ln tl tok tt) :: rest) → Q (.str (leadS nv ln) t) { s with heap := h', toks := k })
  : wpAny (model prog w) (ar none d (fenv ns ig ic mo gl cs qn fo cdv bi L :: outer) gs u) (call (.ref 705) [.ref lx]) Q E s := by
  refine wpAny_call ?_
  k_enter
  (repeat' (first | (k_unfold; (try dsimp only)) | ((fail_if_success (with_reducible show wpAny _ _ (binaryOp Operator.Mod _ _) _ _ _)); walk1)))
  rename News _ _ _ _ => N2
  refine pc_lead hnm hl0 hl1 N2 (.head _) ?_
  intro t7 k7
  k_steps
  rename Fr h₀ _ _ _ => F9
  rename News h₀ _ _ _ => N9
  exact hQ _ _ _ F9 (fun p hp => N9 p (.tail _ hp))
theorem leads4 {lx dx io pb fs sa a wl : Addr} {wc : Str} {lt1 : LxT} {b : Bool} {ev sv nv : Value} {ln ld : Int} {tl tt t1 t2 : Tok} {tok : Str} {us : List Value} {sk ak : Nat}
  (B : Below A₀ base outer h₀) (F : Fr h₀ L s.heap m) (X : (hd.heap_1 w.params).In h₀) (T : Top p loose mean mg mb h₀) (hdp : d < 800) (hun : u < 8000)
  (hfv : handedIn nv = true) (hnm : NmOk nv) (hl0 : 0 ≤ ln) (hl1 : ln < 10 ^ 10)
  (N : News h₀ L s.heap ((lx, instObj 722 dx) :: (dx, lexD w.params lt1 b false ev (Str.ofString "#") wc pb fs io nv sv ln tl tok tt) :: (sa, listOf (us ++ [Value.ref a]).toArray sk) :: (a, listOf [nv, .int ln t1, .ref wl, .int ld t2].toArray ak) :: rest))
  (hQ : ∀ h' k, Fr h₀ L h' m → News h₀ L h' ((lx, instObj 722 dx) :: (dx, lexD w.params lt1 b false ev (Str.ofString "#") wc pb fs io nv sv ln tl tok tt) :: (sa, listOf (us ++ [Value.ref a]).toArray sk) :: (a, listOf [nv, .int ln t1, .ref wl, .int ld t2].toArray ak) :: rest) → Q (.bool true) { s with heap := h', toks := k })
  : wpAny (model prog w) (ar none d (fenv ns ig ic mo gl cs qn fo cdv bi L :: outer) gs u) (call (.ref 747) [.ref lx, .ref sa]) Q E s := by
  refine wpAny_call ?_
  k_enter
  (repeat' (first | (k_unfold; (try dsimp only)) | ((fail_if_success (with_reducible show wpAny _ _ (call (Value.ref 705) _) _ _ _)); walk1)))
  rename Fr _ _ _ _ => F2
  rename News _ _ _ _ => N2
  refine' el4 (wc := wc) ?k1 F2 ?k3 ?k4 ?k5 ?k6 hfv hnm hl0 hl1 N2 ?_
  case k1 => k_asm
  case k3 => k_asm
  case k4 => k_asm
  case k5 => k_room
  case k6 => k_units
  intro h3 t3 k3 F3 N3
  clear F2 N2
  (repeat' (first | (k_unfold; (try dsimp only)) | ((fail_if_success (with_reducible show wpAny _ _ (subscriptTail _ _ _ _) _ _ _)); walk1)))
  refine last_item N3 (.tail _ (.tail _ (.head _))) ?_ (by with_unfolding_all rfl)
  (repeat' (first | (k_unfold; (try dsimp only)) | ((fail_if_success (with_reducible show wpAny _ _ (subscriptTail _ _ _ _) _ _ _)); walk1)))
  (repeat' (first | (k_unfold; (try dsimp only)) | ((fail_if_success (with_reducible show wpAny _ _ (call (Value.type "str") _) _ _ _)); walk1)))
  refine str_nm hnm ?_
  intro t4 k4
  (repeat' (first | (k_unfold; (try dsimp only)) | ((fail_if_success (with_reducible show wpAny _ _ (binaryOp Operator.Add _ _) _ _ _)); walk1)))
  refine add_st (by decide +kernel) (Nat.le_trans (nmS_len hnm) (by decide)) ?_
  intro t5 k5
  (repeat' (first | (k_unfold; (try dsimp only)) | ((fail_if_success (with_reducible show wpAny _ _ (binaryOp Operator.Add _ _) _ _ _)); walk1)))
  have l1 := nmS_len hnm
  have l2 : (Str.ofString "\"").length = 1 := by decide +kernel
  have l3 : (Str.ofString "\", line ").length = 8 := by decide +kernel
  have l4 : (Str.ofString ": ").length = 2 := by decide +kernel
  have l5 := ln_len hl0 hl1
  refine add_st (by rw [app_len]; omega) (by omega) ?_
  intro t6 k6
  (repeat' (first | (k_unfold; (try dsimp only)) | ((fail_if_success (with_reducible show wpAny _ _ (subscriptTail _ _ _ _) _ _ _)); walk1)))
  refine last_item N3 (.tail _ (.tail _ (.head _))) ?_ (by with_unfolding_all rfl)
  (repeat' (first | (k_unfold; (try dsimp only)) | ((fail_if_success (with_reducible show wpAny _ _ (call (Value.type "str") _) _ _ _)); walk1)))
  refine str_ln hl0 hl1 ?_
  intro t7 k7
  (repeat' (first | (k_unfold; (try dsimp only)) | ((fail_if_success (with_reducible show wpAny _ _ (binaryOp Operator.Add _ _) _ _ _)); walk1)))
  refine add_st (by rw [app_len, app_len]; omega) (by omega) ?_
  intro t8 k8
  (repeat' (first | (k_unfold; (try dsimp only)) | ((fail_if_success (with_reducible show wpAny _ _ (binaryOp Operator.Add _ _) _ _ _)); walk1)))
  refine add_st (by rw [app_len, app_len, app_len]; omega) (by omega) ?_
  intro t9 k9
  (repeat' (first | (k_unfold; (try dsimp only)) | ((fail_if_success (with_reducible show wpAny _ _ (compareOp CmpOp.Eq _ _) _ _ _)); walk1)))
  refine eq_self ?_
  k_steps
  rename Fr h₀ _ _ _ => F9
  rename News h₀ _ _ _ => N9
  exact hQ _ _ F9 N9
end
end Mine

end
section
namespace Mine
open LCg
theorem off3_map {I C D : Addr} : ∀ {l l' : List (Addr × Obj)}, l.map (·.1) = l'.map (·.1) → Off3 I C D l → Off3 I C D l'
  | [], [], _, _ => trivial
  | [], _ :: _, h, _ => by cases h
  | _ :: _, [], h, _ => by cases h
  | p :: r, q :: t, h, x => by
    simp only [List.map_cons, List.cons.injEq] at h
    refine ⟨?_, off3_map h.2 x.2⟩
    rw [← h.1]
    exact x.1
theorem off1_map {D : Addr} : ∀ {l l' : List (Addr × Obj)}, l.map (·.1) = l'.map (·.1) → Off1 D l → Off1 D l'
  | [], [], _, _ => trivial
  | [], _ :: _, h, _ => by cases h
  | _ :: _, [], h, _ => by cases h
  | p :: r, q :: t, h, x => by
    simp only [List.map_cons, List.cons.injEq] at h
    refine ⟨?_, off1_map h.2 x.2⟩
    rw [← h.1]
    exact x.1
section
variable {w : World} {A : Around} {h₀ : Heap} {L : Addr} {m : Str → Option Value} {env : Env} {elt : Expr} {x : Str} {scope : Scope} {cl : List (Str × Addr)} {s : Shared} {Fin : List Value → List (Addr × Obj) → Prop}
/-- the end of one turn of a comprehension with a state -/
def CsEnd {σ : Type} (Led : σ → List (Addr × Obj)) (P : σ → List Value → Prop) (h₀ : Heap) (L : Addr) (m : Str → Option Value) (s : Shared) (top : List (Addr × Obj)) (ys : List Value) (y : Value) (s₂ : Shared) : Prop :=
  ∃ (c' : σ) (h' : Heap) (tk' : Nat), s₂ = { s with heap := h', toks := tk' } ∧ Fr h₀ L h' m ∧ News h₀ L h' (top ++ Led c') ∧ P c' (ys ++ [y])
end
theorem rep_flat (v : Value) : ∀ (n : Nat) (a : List Value), List.foldl (fun x1 x2 => x1 ++ x2) a.toArray (List.replicate n #[v]) = (a ++ List.replicate n v).toArray
  | 0, a => by simp
  | n + 1, a => by
    rw [List.replicate_succ, List.foldl_cons]
    have e : a.toArray ++ #[v] = (a ++ [v]).toArray := by simp
    rw [e, rep_flat v n]
    simp [List.replicate_succ]
def datOf (b : Bool) (tok : List Nat) : Dat := if b && tok.isEmpty then .none else .str (S tok)
theorem rv_dat {b : Bool} {tok : List Nat} {v : Value} {l : List (Addr × Obj)} (h : RV b tok v) : DatIn l v (datOf b tok) := by
  unfold RV at h
  unfold datOf
  cases hc : (b && tok.isEmpty) with
  | true => rw [hc, if_pos rfl] at h; subst h; exact .none
  | false =>
    rw [hc] at h
    simp only [Bool.false_eq_true, if_false] at h ⊢
    obtain ⟨t, rfl⟩ := h
    exact .str _ _
theorem ev_dat {b : Bool} {v : Value} {l : List (Addr × Obj)} (h : EV b v) : DatIn l v (datOf b []) := by
  unfold EV at h
  unfold datOf
  cases b with
  | true => simp only [if_true] at h; subst h; exact .none
  | false =>
    simp only [Bool.false_eq_true, if_false] at h
    obtain ⟨t, rfl⟩ := h
    have e : (S [] : Str) = Str.ofString "" := S_nil.symm
    simp only [Bool.false_and, Bool.false_eq_true, if_false, e]
    exact .str _ _
theorem strs_dat {l : List (Addr × Obj)} : ∀ {vs : List Value} {ws : List Str}, StrsAre vs ws → DatAll l vs (ws.map Dat.str)
  | _, _, .nil => .nil
  | _, _, .cons _ _ r => .cons (.str _ _) (strs_dat r)
theorem rep_dat {l : List (Addr × Obj)} {v : Value} {d : Dat} (h : DatIn l v d) : ∀ n : Nat, DatAll l (List.replicate n v) (List.replicate n d)
  | 0 => .nil
  | n + 1 => by rw [List.replicate_succ, List.replicate_succ]; exact .cons h (rep_dat h n)
theorem dat_ok {b : Bool} {tok : List Nat} (h : ∀ c ∈ tok, c < 1114112) (n : Nat) : kqdOk n (datOf b tok) = true := by
  unfold datOf
  split
  · cases n <;> rfl
  · have e : PyData.strOk (S tok) = true := by
      unfold PyData.strOk
      rw [Array.all_eq_true']
      intro c hc
      have : c ∈ tok := by simpa [S] using hc
      simpa using h c this
    cases n <;> exact e
end Mine

end
section
namespace Mine
section
structure SrcOk (c : Src) : Prop where
  nm : NmOk c.nv
  l0 : 0 ≤ c.ln
  d0 : 0 ≤ c.ld
  w : ∀ x ∈ c.ws, (97 ≤ x.1 ∧ x.1 ≤ 100) ∧ 0 ≤ x.2
  b : c.ln + (c.ws.map (·.2)).sum + c.ld ≤ 100
  n : c.ws.length ≤ 3
theorem RemW.ok {r : List Nat} {ws : List (Nat × Int)} {ld : Int} (h : RemW r ws ld) : 0 ≤ ld ∧ (∀ x ∈ ws, (97 ≤ x.1 ∧ x.1 ≤ 100) ∧ 0 ≤ x.2) ∧ (ws.map (·.2)).sum + ld ≤ r.length := by
  induction h with
  | nil k => simp
  | @cons k c s r ws ld hc hs _ ih =>
    obtain ⟨h1, h2, h3⟩ := ih
    refine ⟨h1, ?_, ?_⟩
    · intro x hx
      rcases List.mem_cons.mp hx with rfl | hx
      · refine ⟨hc, ?_⟩
        dsimp only
        split <;> omega
      · exact h2 x hx
    · simp only [List.map_cons, List.sum_cons, List.length_append, List.length_replicate, List.length_cons]
      split <;> omega
theorem SrcOk.word {c : Src} {k : Nat} {e : Int} {ws : List (Nat × Int)} (h : SrcOk c) (hw : c.ws = (k, e) :: ws) : SrcOk { c with ws := ws, ln := c.ln + e } ∧ 0 ≤ e ∧ e ≤ 100 ∧ (97 ≤ k ∧ k ≤ 100) := by
  obtain ⟨h1, h2, h3, h4, h5, h6⟩ := h
  rw [hw] at h4 h5 h6
  have h7 := h4 _ (.head _)
  dsimp only at h7
  have h8 : ∀ l : List (Nat × Int), (∀ x ∈ l, (97 ≤ x.1 ∧ x.1 ≤ 100) ∧ 0 ≤ x.2) → 0 ≤ (l.map (·.2)).sum := by
    intro l hl
    induction l with
    | nil => simp
    | cons a q ih =>
      have := ih fun x hx => hl x (.tail _ hx)
      have := (hl a (.head _)).2
      simp only [List.map_cons, List.sum_cons]
      omega
  have h9 := h8 ws fun x hx => h4 x (.tail _ hx)
  simp only [List.map_cons, List.sum_cons, List.length_cons] at h5 h6
  exact ⟨⟨h1, by dsimp only; omega, h3, fun x hx => h4 x (.tail _ hx), by dsimp only; omega, by dsimp only; omega⟩, h7.2, by omega, h7.1⟩
theorem SrcOk.fin {c : Src} (h : SrcOk c) (hw : c.ws = []) : SrcOk { c with ln := c.ln + c.ld, ld := 0 } := by
  obtain ⟨h1, h2, h3, h4, h5, h6⟩ := h
  rw [hw] at h5
  simp only [List.map_nil, List.sum_nil] at h5
  exact ⟨h1, by dsimp only; omega, by simp, h4, by dsimp only; rw [hw]; simp only [List.map_nil, List.sum_nil]; omega, h6⟩
/-- the stack as the law keeps it, the topmost ahead -/
inductive StackAt : List Value → List Src → List (Addr × Obj) → Prop
  | nil : StackAt [] [] []
  | cons (a wl : Addr) (ak wk : Nat) (t1 t2 : Tok) (c : Src) {ws : List Value} {tups : List (Addr × Obj)} {vs : List Value} {ss : List Src} {l : List (Addr × Obj)} : WordsAt ws c.ws tups → StackAt vs ss l →
      StackAt (.ref a :: vs) (c :: ss) ((a, listOf [c.nv, .int c.ln t1, .ref wl, .int c.ld t2].toArray ak) :: (wl, listOf ws.toArray wk) :: (tups ++ l))
theorem StackAt.length {vs : List Value} {ss : List Src} {l : List (Addr × Obj)} (h : StackAt vs ss l) : vs.length = ss.length := by
  induction h with
  | nil => rfl
  | cons _ _ _ _ _ _ _ _ _ ih => simp [ih]
def datW (x : Nat × Int) : Dat := .tuple [.str ⟨#[x.1]⟩, .int x.2]
theorem words_dat {news : List (Addr × Obj)} {vs : List Value} {ws : List (Nat × Int)} {tups : List (Addr × Obj)} (h : WordsAt vs ws tups) (hs : ∀ p ∈ tups, p ∈ news) : DatAll news vs (ws.map datW) := by
  induction h with
  | nil => exact .nil
  | cons a c e t u _ ih =>
    exact .cons (.tuple (vs := [_, _]) (hs _ (.head _)) (.cons (.str _ _) (.cons (.int _ _) .nil))) (ih fun p hp => hs p (.tail _ hp))
theorem datW_ok {x : Nat × Int} (h : 97 ≤ x.1 ∧ x.1 ≤ 100) : kqdOk 8 (datW x) = true := by
  unfold datW
  simp only [kqdOk, List.all_cons, List.all_nil, Bool.and_true, PyData.strOk]
  simp
  omega
variable {w : World} {A : Around} {E : Value → Shared → Prop} {s : Shared} {Q : Value → Shared → Prop} {h₀ : Heap} {L : Addr} {news : List (Addr × Obj)}
theorem eq_words {a b' : Addr} {vs : List Value} {ws : List (Nat × Int)} {tups : List (Addr × Obj)} {ka kb : Nat} (N : News h₀ L s.heap news) (ma : (a, listOf vs.toArray ka) ∈ news) (Da : WordsAt vs ws tups) (hs : ∀ p ∈ tups, p ∈ news) (hc : ∀ x ∈ ws, (97 ≤ x.1 ∧ x.1 ≤ 100) ∧ 0 ≤ x.2) (mb : (b', listOf (([] : List Value)).toArray kb) ∈ news)
  (hu : A.units + 64 < cLine) (h : Q (.bool ws.isEmpty) s) : wpAny (model prog w) A (compareOp .Eq (.ref a) (.ref b')) Q E s := by
  refine kqd_eq (n₁ := news) (n₂ := []) (es := []) (ys := []) N ma rfl rfl (words_dat Da fun p hp => hs p hp) (fun p hp => hp) mb rfl rfl .nil (fun p hp => absurd hp List.not_mem_nil) (fun d hd => ?_) (fun d hd => absurd hd List.not_mem_nil) hu ?_
  · obtain ⟨x, hx, rfl⟩ := List.mem_map.mp hd
    exact datW_ok (hc x hx).1
  · cases ws with
    | nil => exact h
    | cons d r => exact h
theorem ne_strs {a b' : Addr} {vs : List Value} {xs : List Str} {ka kb : Nat} (N : News h₀ L s.heap news) (ma : (a, listOf vs.toArray ka) ∈ news) (Da : StrsAre vs xs) (hc : ∀ x ∈ xs, PyData.strOk x = true) (mb : (b', listOf (([] : List Value)).toArray kb) ∈ news)
  (hu : A.units + 64 < cLine) (h : Q (.bool (!xs.isEmpty)) s) : wpAny (model prog w) A (compareOp .NotEq (.ref a) (.ref b')) Q E s := by
  refine kqd_ne (n₁ := []) (n₂ := []) (es := []) (ys := []) N ma rfl rfl (strs_dat Da) (fun p hp => absurd hp List.not_mem_nil) mb rfl rfl .nil (fun p hp => absurd hp List.not_mem_nil) (fun d hd => ?_) (fun d hd => absurd hd List.not_mem_nil) hu ?_
  · obtain ⟨x, hx, rfl⟩ := List.mem_map.mp hd
    exact hc x hx
  · cases xs with
    | nil => exact h
    | cons d r => exact h
theorem it_at {a : Addr} {vs : List Value} {k : Int} {u : Tok} {v : Value} {ka : Nat} (N : News h₀ L s.heap news) (hm : (a, listOf vs.toArray ka) ∈ news) (h0 : 0 ≤ k) (h1 : k < 2 ^ 63) (hv : vs[k.toNat]? = some v) (h : Q v s) : wpAny (model prog w) A (getItem (.ref a) (.int k u)) Q E s :=
  wpAny_getItem_list ⟨_, N.get hm, rfl, ka, rfl⟩ h0 h1 (by simpa using hv) h
theorem seq0 {n : Nat} : seqIndex? 0 (n + 1) = some 0 := by
  unfold seqIndex?
  simp
theorem lo_pop {R : Addr} {m : Str → Option Value} {news' : List (Addr × Obj)} {v0 : Value} {vs0 : List Value} {rk : Nat} {u : Tok} (F : Fr h₀ L s.heap m) (N : News h₀ L s.heap news)
  (U : Upd R (listOf (v0 :: vs0).toArray rk) (listOf vs0.toArray (rk + 1)) news news') (hz : vs0.length ≤ 100000) (h : ∀ h', Fr h₀ L h' m → News h₀ L h' news' → Q v0 { s with heap := h' }) : wpAny (model prog w) A (call (.builtin "list.pop") [.ref R, .int 0 u]) Q E s :=
  kl_popAt (its := (v0 :: vs0).toArray) (k := 0) (p := []) (q := vs0) (y := v0) F N rfl (by simpa using seq0) rfl U (by rw [PySem.sizeLine_eq]; simp only [List.length_cons]; omega) h
theorem last_pop {R : Addr} {m : Str → Option Value} {news' : List (Addr × Obj)} {v : Value} {us : List Value} {rk : Nat} (F : Fr h₀ L s.heap m) (N : News h₀ L s.heap news)
  (U : Upd R (listOf (us ++ [v]).toArray rk) (listOf us.toArray (rk + 1)) news news') (hz : us.length ≤ 100000) (h : ∀ h', Fr h₀ L h' m → News h₀ L h' news' → Q v { s with heap := h' }) : wpAny (model prog w) A (call (.builtin "list.pop") [.ref R]) Q E s :=
  kl_pop (its := (us ++ [v]).toArray) F N (by simpa using kpa_last v us) U (by rw [PySem.sizeLine_eq]; simp only [List.length_append, List.length_singleton]; omega) h
theorem len_few {l : Addr} {vs : List Value} {k : Nat} (N : News h₀ L s.heap news) (hm : (l, listOf vs.toArray k) ∈ news) (hv : vs.length ≤ 1000000)
    (h : Q (.int vs.length (s.toks + 1)) { s with toks := s.toks + 1 + 1 }) : wpAny (model prog w) A (call (.builtin "len") [.ref l]) Q E s :=
  call_len_list ⟨_, N.get hm, rfl, k, rfl⟩ (by simp; omega) (by simpa using h)
theorem wx_while {prog' : Program} {w : World} {A : Around} {E : Value → Shared → Prop} {Q : Flow → Shared → Prop} {s : Shared} {env : Env} {h₀ : Heap} {L : Addr} {σ : Type} {test : Expr} {body : List Stmt} {pos : Pos} {m₀ : Str → Option Value} (Led : σ → List (Addr × Obj)) (ps : σ → List (Str × Value)) (stored : List Str) (P Ex : σ → Prop) (μ : σ → Nat) (c₀ : σ)
    (F : Fr h₀ L s.heap m₀) (N : News h₀ L s.heap (Led c₀)) (hk : ∀ p ∈ ps c₀, m₀ p.1 = some p.2) (hp : P c₀)
    (turn : ∀ (c : σ) (u : Str → Option Value) h tk, P c → Fr h₀ L h (kstB (fun z => if stored.contains z then u z else m₀ z) (ps c)) → News h₀ L h (Led c) →
      wpAny (model prog' w) A (isTrue test env (eval test env)) (fun b s₂ =>
        if b = true then wpAny (model prog' w) A (execs body env) (WlPost h₀ L s Led ps stored m₀ P (fun _ => False) μ (μ c)) (fun _ _ => False) s₂ else WlAt h₀ L s Led ps stored m₀ Ex s₂) (fun _ _ => False) { s with heap := h, toks := tk })
    (after : ∀ (c : σ) (u : Str → Option Value) h tk, Ex c → Fr h₀ L h (kstB (fun z => if stored.contains z then u z else m₀ z) (ps c)) → News h₀ L h (Led c) → Q .next { s with heap := h, toks := tk }) :
    wpAny (model prog' w) A (exec (.While test body [] pos) env) Q E s := by
  refine wpAny_mono (Q := fun f s' => f = .next ∧ WlAt h₀ L s Led ps stored m₀ Ex s') (E := fun _ _ => False) ?_ (fun f s' hh => ?_) (fun _ _ hh => hh.elim)
  · refine While_inv2 (fun n m nx => ∃ c : σ, nx = Led c ∧ μ c = n ∧ (∀ p ∈ ps c, m p.1 = some p.2) ∧ (∀ z, (∀ p ∈ ps c, z ≠ p.1) → stored.contains z = false → m z = m₀ z) ∧ P c) F N ⟨c₀, rfl, rfl, hk, fun _ _ _ => rfl, hp⟩ ?_ PassesOwn.never
    rintro n m₁ nx h tk F₁ N₁ ⟨c, hnx, hsz, h1, h2, hp'⟩
    rw [hnx] at N₁
    rw [← hsz]
    refine wpAny_mono (turn c m₁ h tk hp' (ksw_fr h1 h2 F₁) N₁) (fun b s₂ p => ?_) fun _ _ x => x
    cases b with
    | false =>
      simp only [Bool.false_eq_true, if_false] at p ⊢
      exact ⟨by first | rfl | trivial, p⟩
    | true =>
      simp only [if_true] at p ⊢
      refine wpAny_mono p (fun f s₃ q => ?_) fun _ _ x => x
      cases f with
      | ret v => exact q.elim
      | brk =>
        obtain ⟨_, _, _, _, _, _, _, _, _, _, _, hf⟩ := q
        exact hf.elim
      | next =>
        obtain ⟨c', h', tk', m', news', rfl, F', N', hn, hk9, hr9, hp9, hm9⟩ := q
        exact ⟨h', tk', m', Led c', μ c', rfl, F', fun p hp => N' p (hn p hp), hm9, c', rfl, rfl, hk9, hr9, hp9⟩
      | cont =>
        obtain ⟨c', h', tk', m', news', rfl, F', N', hn, hk9, hr9, hp9, hm9⟩ := q
        exact ⟨h', tk', m', Led c', μ c', rfl, F', fun p hp => N' p (hn p hp), hm9, c', rfl, rfl, hk9, hr9, hp9⟩
  · obtain ⟨rfl, c', h', tk', m', news', rfl, F', N', hn, hk9, hr9, hb⟩ := hh
    exact after c' m' h' tk' hb (ksw_fr hk9 hr9 F') fun p hp => N' p (hn p hp)
end
end Mine
local macro_rules | `(tactic| walk_at "execs nil") => `(tactic| (with_reducible refine wpAny_execs_nil ?_))
local macro_rules | `(tactic| walk_at "exec If") => `(tactic| ((try k_fold); with_reducible refine wpAny_If ?_))
local macro_rules | `(tactic| walk_at "ite") => `(tactic| first | with_reducible refine Mine.ite_t ?_ | with_reducible refine Mine.ite_f ?_)
local macro_rules | `(tactic| walk_at "execs cons") => `(tactic| ((try dsimp only); with_reducible refine wpAny_execs_cons ?_))
local macro_rules | `(tactic| k_all) => `(tactic| assumption)
namespace Mine
section
variable {w : World} {A₀ : Around} {base h₀ : Heap} {outer : List Env} {L : Addr} {m mg mb : Str → Option Value} {loose : List Str} {mean : ExcName → Option Value} {s : Shared} {Q E : Value → Shared → Prop} {p : Program}
  {hdl : Option Value} {d u : Nat} {gs : Option (List Code)} {rest : List (Addr × Obj)} {ns : List (Str × NameKind)} {ig ic : Bool} {mo : List (Str × Const)} {gl bi : Addr} {cs : List (Str × Addr)} {qn : Str} {fo : Option Addr} {cdv : Value}
theorem nextp4 {sa pa : Addr} {endv v0 : Value} {pvs : List Value} {x0 : Str} {xs : List Str} {pk : Nat} {so : Obj}
  (B : Below A₀ base outer h₀) (F : Fr h₀ L s.heap m) (X : (hd.heap_1 w.params).In h₀) (T : Top p loose mean mg mb h₀) (hdp : d < 800) (hun : u < 8000)
  (hp : StrsAre (v0 :: pvs) (x0 :: xs)) (hc : ∀ x ∈ x0 :: xs, PyData.strOk x = true) (hl : pvs.length ≤ 1000) (hn : ∀ p ∈ (sa, so) :: rest, p.1 ≠ pa)
  (N : News h₀ L s.heap ((pa, listOf (v0 :: pvs).toArray pk) :: (sa, so) :: rest))
  (hQ : ∀ h' k, Fr h₀ L h' m → News h₀ L h' ((pa, listOf pvs.toArray (pk + 1)) :: (sa, so) :: rest) → Q v0 { s with heap := h', toks := k })
  : wpAny (model prog w) (ar none d (fenv ns ig ic mo gl cs qn fo cdv bi L :: outer) gs u) (call (.ref 740) [.ref sa, .ref pa, endv]) Q E s := by
  refine wpAny_call ?_
  k_enter
  (repeat' (first | (k_unfold; (try dsimp only)) | ((fail_if_success (with_reducible show wpAny _ _ (compareOp CmpOp.NotEq _ _) _ _ _)); walk1)))
  rename News _ _ _ _ => N2
  refine ne_strs N2 (.tail _ (.head _)) hp hc (.head _) (by k_units) ?_
  rw [List.isEmpty_cons, Bool.not_false]
  (repeat' (first | (k_unfold; (try dsimp only)) | ((fail_if_success (with_reducible show wpAny _ _ (call (Value.builtin "list.pop") _) _ _ _)); walk1)))
  rename Fr _ _ _ _ => F2
  rename _ ∧ _ ∧ AllLt _ rest => hlt
  refine lo_pop F2 N2 (.tail (Nat.ne_of_gt hlt.1) (.head hn)) (by omega) ?_
  intro h3 F3 N3
  clear F2 N2
  k_steps
  rename Fr h₀ _ _ _ => F9
  rename News h₀ _ _ _ => N9
  exact hQ _ _ F9 (fun p hp => N9 p (.tail _ hp))
theorem nd_two {x y : Addr} {o o' : Obj} {R : List (Addr × Obj)} (h : ND ((x, o) :: (y, o') :: R)) : @Ne Nat x y ∧ (∀ p ∈ R, p.1 ≠ x ∧ p.1 ≠ y) ∧ ND R := by
  unfold ND at h ⊢
  simp only [List.map_cons, List.nodup_cons, List.mem_cons, not_or] at h
  refine ⟨h.1.1, fun p hp => ?_, h.2.2⟩
  have hm : p.1 ∈ R.map (·.1) := List.mem_map_of_mem (f := (·.1)) hp
  exact ⟨fun e => h.1.2 (e ▸ hm), fun e => h.2.1 (e ▸ hm)⟩
theorem mem4 {p a b : Addr × Obj} {t l r : List (Addr × Obj)} (h : p ∈ l ++ r) : p ∈ a :: b :: (t ++ l) ++ r := by
  rcases List.mem_append.mp h with h | h
  · exact List.mem_append_left _ (.tail _ (.tail _ (List.mem_append_right _ h)))
  · exact List.mem_append_right _ h
theorem nd_sub4 {a b : Addr × Obj} {t l r : List (Addr × Obj)} (h : ND (a :: b :: (t ++ l) ++ r)) : ND (l ++ r) := by
  unfold ND at h ⊢
  refine h.sublist (List.Sublist.map _ ?_)
  refine List.Sublist.cons _ (List.Sublist.cons _ ?_)
  show (l ++ r).Sublist ((t ++ l) ++ r)
  exact (List.sublist_append_right t l).append_right r
theorem n4_led {g h : Heap} {L sa a : Addr} {x p A W : Addr × Obj} {vs : List Value} {sk : Nat} {R rest : List (Addr × Obj)} (N : News g L h (x :: p :: (sa, listOf (vs.reverse ++ [Value.ref a]).toArray sk) :: A :: W :: (R ++ rest))) :
  News g L h (p :: (sa, listOf (Value.ref a :: vs).reverse.toArray sk) :: ((A :: W :: R) ++ rest)) := by
  rw [List.reverse_cons]
  exact fun q hq => N q (.tail _ hq)
theorem n4_led2 {g h : Heap} {L sa a : Addr} {x p A W t0 : Addr × Obj} {vs : List Value} {sk : Nat} {R rest : List (Addr × Obj)} (N : News g L h (x :: p :: (sa, listOf (vs.reverse ++ [Value.ref a]).toArray sk) :: A :: W :: t0 :: (R ++ rest))) :
  News g L h (p :: (sa, listOf (Value.ref a :: vs).reverse.toArray sk) :: ((A :: W :: R) ++ rest)) := by
  rw [List.reverse_cons]
  intro q hq
  refine N q (.tail _ ?_)
  rcases List.mem_cons.mp hq with rfl | hq
  · exact .head _
  · rcases List.mem_cons.mp hq with rfl | hq
    · exact .tail _ (.head _)
    · rcases List.mem_cons.mp hq with rfl | hq
      · exact .tail _ (.tail _ (.head _))
      · rcases List.mem_cons.mp hq with rfl | hq
        · exact .tail _ (.tail _ (.tail _ (.head _)))
        · exact .tail _ (.tail _ (.tail _ (.tail _ (.tail _ hq))))
theorem nd_drop4 {pa sa a wl a0 : Addr} {o1 o1' o2 o2' o3 o3' o4 o4' o5 : Obj} {R l rest : List (Addr × Obj)} (h : ND ((pa, o1) :: (sa, o2) :: ((a, o3) :: (wl, o4) :: ((a0, o5) :: R ++ l) ++ rest))) : ND ((pa, o1') :: (sa, o2') :: ((a, o3') :: (wl, o4') :: (R ++ l) ++ rest)) := by
  unfold ND at h ⊢
  simp only [List.cons_append, List.map_cons] at h ⊢
  refine h.sublist ?_
  refine List.Sublist.cons_cons _ (List.Sublist.cons_cons _ (List.Sublist.cons_cons _ (List.Sublist.cons_cons _ (List.Sublist.cons _ (List.Sublist.refl _)))))
structure NS4 where
  vs : List Value
  ss : List Src
  l : List (Addr × Obj)
  sk : Nat
def NP4 (pa sa : Addr) (pk : Nat) (rest : List (Addr × Obj)) (ss0 : List Src) (c : NS4) : Prop :=
  StackAt c.vs c.ss c.l ∧ c.ss ≠ [] ∧ nextS c.ss = nextS ss0 ∧ ND ((pa, listOf (([] : List Value)).toArray pk) :: (sa, listOf c.vs.reverse.toArray c.sk) :: (c.l ++ rest)) ∧ (∀ x ∈ c.ss, SrcOk x) ∧ c.ss.length ≤ 20
def NO4 (pa sa : Addr) (pk : Nat) (rest : List (Addr × Obj)) (c : NS4) : Prop :=
  StackAt c.vs c.ss c.l ∧ c.ss ≠ [] ∧ ND ((pa, listOf (([] : List Value)).toArray pk) :: (sa, listOf c.vs.reverse.toArray c.sk) :: (c.l ++ rest)) ∧ (∀ x ∈ c.ss, SrcOk x) ∧ c.ss.length ≤ 20
theorem nexts4 {sa pa : Addr} {endv : Value} {pk sk : Nat} {vs : List Value} {ss : List Src} {l : List (Addr × Obj)}
  (B : Below A₀ base outer h₀) (F : Fr h₀ L s.heap m) (X : (hd.heap_1 w.params).In h₀) (T : Top p loose mean mg mb h₀) (hdp : d < 800) (hun : u < 8000)
  (hP : NP4 pa sa pk rest ss ⟨vs, ss, l, sk⟩)
  (N : News h₀ L s.heap ((pa, listOf (([] : List Value)).toArray pk) :: (sa, listOf vs.reverse.toArray sk) :: (l ++ rest)))
  (hQ : ∀ h' v c' k, Fr h₀ L h' m → News h₀ L h' ((pa, listOf (([] : List Value)).toArray pk) :: (sa, listOf (c' : NS4).vs.reverse.toArray c'.sk) :: (c'.l ++ rest)) → NO4 pa sa pk rest c' → c'.ss = (nextS ss).2 → G4 endv (nextS ss).1 v → Q v { s with heap := h', toks := k })
  : wpAny (model prog w) (ar none d (fenv ns ig ic mo gl cs qn fo cdv bi L :: outer) gs u) (call (.ref 740) [.ref sa, .ref pa, endv]) Q E s := by
  refine wpAny_call ?_
  k_enter
  (repeat' (first | (k_unfold; (try dsimp only)) | ((fail_if_success (with_reducible show wpAny _ _ (compareOp CmpOp.NotEq _ _) _ _ _)); walk1)))
  rename News _ _ _ _ => N2
  refine ne_strs (xs := []) N2 (.tail _ (.head _)) .nil (fun x hx => absurd hx List.not_mem_nil) (.head _) (by k_units) ?_
  rw [List.isEmpty_nil, Bool.not_true]
  (repeat' (first | (k_unfold; (try dsimp only)) | ((fail_if_success (with_reducible show wpAny _ _ (exec (Stmt.While _ _ _ _) _) _ _ _)); walk1)))
  rename Fr _ _ _ _ => F3
  refine' wx_while (σ := NS4) (fun c => (pa, listOf (([] : List Value)).toArray pk) :: (sa, listOf c.vs.reverse.toArray c.sk) :: (c.l ++ rest)) (fun _ => []) [] (NP4 pa sa pk rest ss) (fun c => NP4 pa sa pk rest ss c ∧ (c.ss.length = 1 ∨ ∃ t r, c.ss = t :: r ∧ t.ws ≠ [])) (fun c => c.ss.length) ⟨vs, ss, l, sk⟩ F3 (fun p hp => N2 p (.tail _ hp)) ?w1 hP ?w2 ?w3
  case w1 => exact fun p hp => absurd hp List.not_mem_nil
  case w2 =>
    rintro ⟨vs1, ss1, l1, sk1⟩ u1 h4 tk4 hP1 F4 N4
    have hP2 := hP1
    obtain ⟨p1, p2, p3, p4, p5, p6⟩ := hP1
    dsimp only at p1 p2 p3 p4 p5 p6 F4 N4
    clear F3 N2
    have hvl := p1.length
    (repeat' (first | (k_unfold; (try dsimp only)) | ((fail_if_success (with_reducible show wpAny _ _ (call (Value.builtin "len") _) _ _ _)); walk1)))
    refine len_few N4 (.tail _ (.head _)) (by rw [List.length_reverse]; omega) ?_
    rw [List.length_reverse, hvl]
    by_cases h1 : 1 < ss1.length
    · cases p1 with
      | nil => exact absurd rfl p2
      | @cons a wl ak wk t1 t2 c ws tups vs' ss' l' q1 q2 =>
      (repeat' (first | (k_unfold; (try dsimp only)) | ((fail_if_success (with_reducible show wpAny _ _ (subscriptTail _ _ _ _) _ _ _)); walk1)))
      rw [List.reverse_cons] at N4
      rw [List.cons_append, List.cons_append] at N4
      refine last_item N4 (.tail _ (.head _)) ?_ (by with_unfolding_all rfl)
      (repeat' (first | (k_unfold; (try dsimp only)) | ((fail_if_success (with_reducible show wpAny _ _ (compareOp CmpOp.Eq _ _) _ _ _)); walk1)))
      rename News _ _ _ _ => N5
      have okc := p5 c (.head _)
      refine eq_words N5 (.tail _ (.tail _ (.tail _ (.tail _ (.head _))))) q1 (fun p hp => .tail _ (.tail _ (.tail _ (.tail _ (.tail _ (List.mem_append_left _ (List.mem_append_left _ hp))))))) okc.w (.head _) (by k_units) ?_
      cases hws : c.ws with
      | nil =>
        rw [List.isEmpty_nil]
        (repeat' (first | (k_unfold; (try dsimp only)) | ((fail_if_success (with_reducible show wpAny _ _ (call (Value.builtin "list.pop") _) _ _ _)); walk1)))
        rename Fr _ _ _ _ => F6
        rename _ ∧ _ ∧ _ ∧ _ ∧ AllLt _ _ => hlt
        have nd2 := nd_two p4
        refine last_pop F6 N5 (.tail (Nat.ne_of_gt hlt.2.1) (.tail nd2.1 (.head fun p hp => (nd2.2.1 p hp).2))) (by rw [List.length_reverse]; simp only [List.length_cons] at p6 hvl; omega) ?_
        intro h6 F7 N7
        clear F6 N5
        k_steps
        rename Fr _ _ _ _ => F8
        rename News _ _ _ _ => N8
        refine wl_at (σ := NS4) ⟨vs', ss', l', sk1 + 1⟩ F8 N8 (fun p hp => ?_) (fun p hp => absurd hp List.not_mem_nil) (fun z _ _ => rfl) ⟨⟨q2, ?_, ?_, ?_, fun x hx => p5 x (.tail _ hx), ?_⟩, ?_⟩
        · rcases List.mem_cons.mp hp with rfl | hp
          · exact .tail _ (.head _)
          · rcases List.mem_cons.mp hp with rfl | hp
            · exact .tail _ (.tail _ (.head _))
            · refine .tail _ (.tail _ (.tail _ (.tail _ (.tail _ ?_))))
              rcases List.mem_append.mp hp with hp | hp
              · exact List.mem_append_left _ (List.mem_append_right _ hp)
              · exact List.mem_append_right _ hp
        · intro e
          dsimp only at e
          rw [e] at h1
          simp at h1
        · dsimp only
          rw [← p3]
          cases ss' with
          | nil => simp at h1
          | cons x y => conv => rhs; unfold nextS; rw [hws]
        · exact nd_cons (List.forall_mem_cons.mpr ⟨Ne.symm nd2.1, fun p hp => (nd2.2.1 p (mem4 hp)).1⟩) (nd_cons (fun p hp => (nd2.2.1 p (mem4 hp)).2) (nd_sub4 nd2.2.2))
        · simp only [List.length_cons] at p6 ⊢; omega
        · simp only [List.length_cons]; omega
      | cons w0 wr =>
        rw [List.isEmpty_cons]
        k_steps
        rename Fr _ _ _ _ => F6
        refine wl_at (σ := NS4) ⟨_, _, _, sk1⟩ F6 N5 (fun p hp => by rw [List.reverse_cons] at hp; exact .tail _ hp) (fun p hp => absurd hp List.not_mem_nil) (fun z _ _ => rfl) ⟨hP2, .inr ⟨c, ss', rfl, by rw [hws]; simp⟩⟩
    · k_steps
      exact wl_at (σ := NS4) ⟨_, _, _, sk1⟩ F4 N4 (fun p hp => hp) (fun p hp => absurd hp List.not_mem_nil) (fun z _ _ => rfl) ⟨hP2, .inl (by cases ss1 with | nil => exact absurd rfl p2 | cons x y => simp only [List.length_cons] at h1 ⊢; omega)⟩
  case w3 =>
    rintro ⟨vs1, ss1, l1, sk1⟩ u1 h4 tk4 ⟨⟨p1, p2, p3, p4, p5, p6⟩, hx⟩ F4 N4
    dsimp only at p1 p2 p3 p4 p5 p6 F4 N4 hx
    clear F3 N2 hP
    have hvl := p1.length
    cases p1 with
    | nil => exact absurd rfl p2
    | @cons a wl ak wk t1 t2 c ws tups vs' ss' l' q1 q2 =>
      rw [List.reverse_cons] at N4
      rw [List.cons_append, List.cons_append] at N4
      have nd2 := nd_two p4
      have nd3 := nd_two (show ND ((a, _) :: (wl, _) :: (tups ++ l' ++ rest)) from nd2.2.2)
      have na := nd2.2.1 (a, _) (.head _)
      have nw := nd2.2.1 (wl, _) (.tail _ (.head _))
      dsimp only at na nw
      have n1 : @Ne Nat pa a := Ne.symm na.1
      have n2 : @Ne Nat sa a := Ne.symm na.2
      have n3 : @Ne Nat pa wl := Ne.symm nw.1
      have n4 : @Ne Nat sa wl := Ne.symm nw.2
      have n5 : @Ne Nat a wl := nd3.1
      have n6 : ∀ p ∈ tups ++ l' ++ rest, p.1 ≠ a := fun p hp => (nd3.2.1 p hp).1
      have n7 : ∀ p ∈ tups ++ l' ++ rest, p.1 ≠ wl := fun p hp => (nd3.2.1 p hp).2
      have okc := p5 c (.head _)
      have okn := okc.w
      (repeat' (first | (k_unfold; (try dsimp only)) | ((fail_if_success (with_reducible show wpAny _ _ (subscriptTail _ _ _ _) _ _ _)); walk1)))
      refine last_item N4 (.tail _ (.head _)) ?_ (by with_unfolding_all rfl)
      (repeat' (first | (k_unfold; (try dsimp only)) | ((fail_if_success (with_reducible show wpAny _ _ (compareOp CmpOp.Eq _ _) _ _ _)); walk1)))
      rename News _ _ _ _ => N5
      refine eq_words N5 (.tail _ (.tail _ (.tail _ (.tail _ (.head _))))) q1 (fun p hp => .tail _ (.tail _ (.tail _ (.tail _ (.tail _ (List.mem_append_left _ (List.mem_append_left _ hp))))))) okc.w (.head _) (by k_units) ?_
      rename _ ∧ _ ∧ _ ∧ _ ∧ AllLt _ _ => hlt
      have n9 : ∀ p ∈ (wl, listOf ws.toArray wk) :: (tups ++ l' ++ rest), p.1 ≠ a := List.forall_mem_cons.mpr ⟨Ne.symm n5, n6⟩
      cases hws : c.ws with
      | nil =>
        rw [List.isEmpty_nil]
        have hs0 : ss' = [] := by
          rcases hx with hx | ⟨t, r, e, hw⟩
          · exact List.eq_nil_of_length_eq_zero (by simp only [List.length_cons] at hx; omega)
          · cases e; exact absurd hws hw
        subst hs0
        (repeat' (first | (k_unfold; (try dsimp only)) | ((fail_if_success (with_reducible show wpAny _ _ (getItem _ _) _ _ _)); walk1)))
        refine it_at N5 (.tail _ (.tail _ (.tail _ (.head _)))) (by decide) (by decide) rfl ?_
        (repeat' (first | (k_unfold; (try dsimp only)) | ((fail_if_success (with_reducible show wpAny _ _ (setItem _ _ _) _ _ _)); walk1)))
        rename Fr _ _ _ _ => F6
        refine ki_set (q := [c.nv, .int (c.ln + c.ld) _, .ref wl, .int c.ld t2]) F6 N5 (by decide) (by decide) rfl (.tail (Nat.ne_of_gt hlt.2.2.1) (.tail n1 (.tail n2 (.head n9)))) ?_
        intro h7 F7 N7
        clear F6 N5
        (repeat' (first | (k_unfold; (try dsimp only)) | ((fail_if_success (with_reducible show wpAny _ _ (setItem _ _ _) _ _ _)); walk1)))
        rename Fr _ _ _ _ => F8
        refine ki_set (q := [c.nv, .int (c.ln + c.ld) _, .ref wl, .int 0 _]) F8 N7 (by decide) (by decide) rfl (.tail (Nat.ne_of_gt hlt.2.2.1) (.tail n1 (.tail n2 (.head n9)))) ?_
        intro h9 F9 N9
        clear F8 N7
        k_steps
        rename Fr h₀ _ _ _ => F10
        rename News h₀ _ _ _ => N10
        have hnx : nextS ss = (none, [{ c with ln := c.ln + c.ld, ld := 0 }]) := by rw [← p3]; unfold nextS; rw [hws]
        refine hQ _ _ ⟨_, [{ c with ln := c.ln + c.ld, ld := 0 }], _, sk1⟩ _ F10 (n4_led N10) ⟨StackAt.cons a wl ak wk _ _ { c with ln := c.ln + c.ld, ld := 0 } q1 q2, by simp, ?_, ?_, by simp⟩ (by rw [hnx]) (by rw [hnx]; rfl)
        · exact p4
        · intro x hx
          rw [List.mem_singleton.mp hx]
          exact okc.fin hws
      | cons w0 wr =>
        obtain ⟨k0, e0⟩ := w0
        rw [List.isEmpty_cons]
        rw [hws] at q1
        cases q1 with
        | @cons a0 _ _ tk0 te0 vs0 _ tups0 q3 =>
        rw [List.cons_append, List.cons_append] at N5
        have okw := okc.word hws
        have hv0 := q3.length
        have hw3 := okc.n
        rw [hws, List.length_cons] at hw3
        (repeat' (first | (k_unfold; (try dsimp only)) | ((fail_if_success (with_reducible show wpAny _ _ (call (Value.builtin "list.pop") _) _ _ _)); walk1)))
        rename Fr _ _ _ _ => F6
        refine lo_pop F6 N5 (.tail (Nat.ne_of_gt hlt.2.2.2.1) (.tail n3 (.tail n4 (.tail n5 (.head n7))))) (by omega) ?_
        intro h7 F7 N7
        clear F6 N5
        (repeat' (first | (k_unfold; (try dsimp only)) | ((fail_if_success (with_reducible show wpAny _ _ (getItem _ _) _ _ _)); walk1)))
        rename Fr _ _ _ _ => F7
        rename News _ _ _ _ => N7
        refine it_at N7 (.tail _ (.tail _ (.tail _ (.head _)))) (by decide) (by decide) rfl ?_
        (repeat' (first | (k_unfold; (try dsimp only)) | ((fail_if_success (with_reducible show wpAny _ _ (setItem _ _ _) _ _ _)); walk1)))
        refine ki_set (q := [c.nv, .int (c.ln + e0) _, .ref wl, .int c.ld t2]) F7 N7 (by decide) (by decide) rfl (.tail (Nat.ne_of_gt hlt.2.2.1) (.tail n1 (.tail n2 (.head (List.forall_mem_cons.mpr ⟨Ne.symm n5, n6⟩))))) ?_
        intro h9 F9 N9
        clear F7 N7
        k_steps
        rename Fr h₀ _ _ _ => F10
        rename News h₀ _ _ _ => N10
        have hnx : nextS ss = (some k0, { c with ws := wr, ln := c.ln + e0 } :: ss') := by rw [← p3]; unfold nextS; rw [hws]
        refine hQ _ _ ⟨_, { c with ws := wr, ln := c.ln + e0 } :: ss', _, sk1⟩ _ F10 (n4_led2 N10) ⟨StackAt.cons a wl ak (wk + 1) _ _ { c with ws := wr, ln := c.ln + e0 } q3 q2, by simp, ?_, ?_, by simp only [List.length_cons] at p6 ⊢; omega⟩ (by rw [hnx]) (by rw [hnx]; exact ⟨tk0, rfl⟩)
        · exact nd_drop4 p4
        · intro x hx
          rcases List.mem_cons.mp hx with rfl | hx
          · exact okw.1
          · exact p5 x (.tail _ hx)
end
end Mine

end
section
namespace Mine
section
variable {w : World} {A₀ : Around} {base h₀ : Heap} {outer : List Env} {L : Addr} {m mg mb : Str → Option Value} {loose : List Str} {mean : ExcName → Option Value} {s : Shared} {Q E : Value → Shared → Prop} {p : Program}
  {hdl : Option Value} {d u : Nat} {gs : Option (List Code)} {rest : List (Addr × Obj)} {ns : List (Str × NameKind)} {ig ic : Bool} {mo : List (Str × Const)} {gl bi : Addr} {cs : List (Str × Addr)} {qn : Str} {fo : Option Addr} {cdv : Value}
/-- the pushed tokens first, then the sources -/
def nextX (xs : List Str) (ss : List Src) : Option Str × List Str × List Src :=
  match xs with
  | y :: r => (some y, r, ss)
  | [] => ((nextS ss).1.map fun c => S [c], [], (nextS ss).2)
def VT (ev : Value) (o : Option Str) (v : Value) : Prop := match o with
  | some y => ∃ t, v = .str y t
  | none => v = ev
def LexI (P : Params) (lx pb : Addr) (c : L4) (stk : List (Addr × Obj)) (xs : List Str) (ss : List Src) : Prop := Lx4 P lx pb c ss stk ∧ StrsAre c.pbs xs ∧ xs.length ≤ 1000 ∧ ss.length ≤ 20
structure LawI (v : NS4) (pvs : List Value) (xs : List Str) (ss : List Src) : Prop where
  st : StackAt v.vs v.ss v.l
  e : v.ss = ss
  ne : ss ≠ []
  ok : ∀ x ∈ ss, SrcOk x
  n : ss.length ≤ 20
  p : StrsAre pvs xs
  po : ∀ x ∈ xs, PyData.strOk x = true
  pn : xs.length ≤ 1000
theorem g4_vt {ev v : Value} {o : Option Nat} (h : G4 ev o v) : VT ev (o.map fun c => S [c]) v := by
  cases o with
  | none => exact h
  | some c => exact h
theorem nd_perm {l l' : List (Addr × Obj)} (h : ND l) (hp : l.Perm l') : ND l' := by
  unfold ND at h ⊢
  exact (List.Perm.nodup_iff (hp.map _)).mp h
theorem lx4_top {P : Params} {lx pb : Addr} {c : L4} {stk : List (Addr × Obj)} {ss : List Src} (h : Lx4 P lx pb c ss stk) (pbs : List Value) (pn : Int) : Lx4 P lx pb { c with pbs := pbs, pn := pn } ss stk := h
theorem next_len : ∀ (ss : List Src), (nextS ss).2.length ≤ ss.length
  | [] => Nat.le_refl _
  | t :: r => by
    unfold nextS
    cases hw : t.ws with
    | cons a q => simp
    | nil =>
      cases r with
      | nil => simp
      | cons a q =>
        have := next_len (a :: q)
        simp only [List.length_cons] at this ⊢
        omega
theorem nx_ord {g h : Heap} {a b c d e f : Addr × Obj} {r : List (Addr × Obj)} (N : News g L h ([a, b, c, d, e, f] ++ r)) : News g L h (c :: d :: e :: ([f, a, b] ++ r)) := by
  intro q hq
  refine N q ?_
  simp only [List.mem_cons, List.cons_append, List.nil_append] at hq ⊢
  rcases hq with h | h | h | h | h | h | h <;> simp [h]
theorem nx_ord2 {g h : Heap} {a b c d e f : Addr × Obj} {r : List (Addr × Obj)} (N : News g L h (c :: d :: e :: ([f, a, b] ++ r))) : News g L h ([a, b, c, d, e, f] ++ r) := by
  intro q hq
  refine N q ?_
  simp only [List.mem_cons, List.cons_append, List.nil_append] at hq ⊢
  rcases hq with h | h | h | h | h | h | h <;> simp [h]
theorem lex_next {lx dx pb fs : Addr} {T1 : LxT} {b : Bool} {ev : Value} {c : L4} {stk : List (Addr × Obj)} {xs : List Str} {ss : List Src} (hap : Ap4 pb lx dx fs) (hlp : @LT.lt Nat _ lx pb) (hev : EV b ev)
  (B : Below A₀ base outer h₀) (F : Fr h₀ L s.heap m) (X : (hd.heap_1 w.params).In h₀) (T : Top p loose mean mg mb h₀) (hdp : d < 700) (hun : u < 7000)
  (hI : LexI w.params lx pb c stk xs ss) (hnd : ND (led4 w.params T1 b ev pb lx dx fs c ++ (stk ++ rest)))
  (N : News h₀ L s.heap (led4 w.params T1 b ev pb lx dx fs c ++ (stk ++ rest)))
  (hQ : ∀ h' v c' stk' k, Fr h₀ L h' m → News h₀ L h' (led4 w.params T1 b ev pb lx dx fs c' ++ (stk' ++ rest)) → ND (led4 w.params T1 b ev pb lx dx fs c' ++ (stk' ++ rest)) → LexI w.params lx pb c' stk' (nextX xs ss).2.1 (nextX xs ss).2.2 → VT ev (nextX xs ss).1 v → (xs ≠ [] → c'.sv = c.sv) → ((nextX xs ss).1 ≠ none → xs = [] → ∃ t, c'.sv = .str (Str.ofString " ") t) → Q v { s with heap := h', toks := k })
  : wpAny (model prog w) (ar none d (fenv ns ig ic mo gl cs qn fo cdv bi L :: outer) gs u) (call (.ref 683) [.ref lx]) Q E s := by
  obtain ⟨i1, i2, i3, i4⟩ := hI
  cases xs with
  | nil =>
    have hpb : c.pbs = [] := List.eq_nil_of_length_eq_zero (by rw [i2.length]; rfl)
    have hss : ss ≠ [] := by
      obtain ⟨t, r, st, e, _⟩ := i1
      rw [e]; simp
    have hn : ss.length = (ss.length - 1) + 1 := by
      have := List.length_pos_iff.mpr hss
      omega
    refine gt4 (c := c) (ss := ss) (stk := stk) hap hev (ss.length - 1) B F X T (by omega) (by omega) hn i1 hpb hnd N ?_
    intro h' v c' stk' k F' N' D' P' G' B' S'
    refine hQ h' v c' stk' k F' N' D' ⟨P', ?_, by simp [nextX], ?_⟩ (g4_vt G') (fun h => absurd rfl h) (fun h _ => S' fun e => h (by simp [nextX, e]))
    · rw [B']; exact .nil
    · exact Nat.le_trans (next_len ss) i4
  | cons y r =>
    obtain ⟨io, iod, kt, x, pos, tp, pbs, pn, nv, sv, ln, tl, tok, tt, fvs, fn⟩ := c
    dsimp only at i2
    cases i2 with
    | @cons _ ty pr _ i2 =>
    have nd := nd4 hnd
    have hl := i2.length
    simp only [List.length_cons] at i3
    refine get_tok1 B F X T (by omega) (by omega) hap.1 hlp (rest := [(fs, dqO fvs fn), (io, instObj 587 iod), (iod, ioD w.params kt (S x) pos tp)] ++ (stk ++ rest)) ?_ (by omega) (nx_ord N) ?_
    · intro q hq
      rcases List.mem_append.mp hq with hq | hq
      · simp only [List.mem_cons, List.not_mem_nil, or_false] at hq
        rcases hq with rfl | rfl | rfl
        · exact Ne.symm hap.2.2.2.2.2
        · exact nd.a.2.1
        · exact nd.a.2.2.2.2.2.1
      · exact (nd.r q hq).2.2.1
    · intro h' k F' N'
      exact hQ h' _ ⟨io, iod, kt, x, pos, tp, pr, pn + 1, nv, sv, ln, tl, tok, tt, fvs, fn⟩ stk k F' (nx_ord2 N') hnd ⟨i1, i2, by simp only [nextX]; omega, i4⟩ ⟨ty, rfl⟩ (fun _ => rfl) (fun _ h => by cases h)
theorem law_next {sa pa : Addr} {endv : Value} {v : NS4} {pvs : List Value} {pk : Nat} {xs : List Str} {ss : List Src}
  (B : Below A₀ base outer h₀) (F : Fr h₀ L s.heap m) (X : (hd.heap_1 w.params).In h₀) (T : Top p loose mean mg mb h₀) (hdp : d < 700) (hun : u < 7000)
  (hI : LawI v pvs xs ss) (hnd : ND ((pa, listOf pvs.toArray pk) :: (sa, listOf v.vs.reverse.toArray v.sk) :: (v.l ++ rest)))
  (N : News h₀ L s.heap ((pa, listOf pvs.toArray pk) :: (sa, listOf v.vs.reverse.toArray v.sk) :: (v.l ++ rest)))
  (hQ : ∀ h' v0 v' pvs' pk' k, Fr h₀ L h' m → News h₀ L h' ((pa, listOf (pvs' : List Value).toArray pk') :: (sa, listOf (v' : NS4).vs.reverse.toArray v'.sk) :: (v'.l ++ rest)) → ND ((pa, listOf pvs'.toArray pk') :: (sa, listOf v'.vs.reverse.toArray v'.sk) :: (v'.l ++ rest)) →
    LawI v' pvs' (nextX xs ss).2.1 (nextX xs ss).2.2 → VT endv (nextX xs ss).1 v0 → Q v0 { s with heap := h', toks := k })
  : wpAny (model prog w) (ar none d (fenv ns ig ic mo gl cs qn fo cdv bi L :: outer) gs u) (call (.ref 740) [.ref sa, .ref pa, endv]) Q E s := by
  obtain ⟨vs, ss', l, sk⟩ := v
  obtain ⟨i1, i2, i3, i4, i5, i6, i7, i8⟩ := hI
  dsimp only at i1 i2 hnd N
  subst i2
  have nd2 := nd_two hnd
  cases i6 with
  | nil =>
    refine nexts4 (vs := vs) (ss := ss') (l := l) B F X T (by omega) (by omega) ⟨i1, i3, rfl, hnd, i4, i5⟩ N ?_
    intro h' v0 c' k F' N' P' e' G'
    obtain ⟨q1, q2, q3, q4, q5⟩ := P'
    have e2 : (nextX [] ss').2.2 = c'.ss := e'.symm
    refine hQ h' v0 c' [] pk k F' N' q3 ⟨q1, e2.symm, by rw [e2]; exact q2, by rw [e2]; exact q4, by rw [e2]; exact q5, .nil, by simp [nextX], by simp [nextX]⟩ (g4_vt G')
  | @cons y ty pr _ i6 =>
    have hl := i6.length
    simp only [List.length_cons] at i8
    refine nextp4 (x0 := y) B F X T (by omega) (by omega) (.cons y ty i6) i7 (by omega) (List.forall_mem_cons.mpr ⟨Ne.symm nd2.1, fun p hp => (nd2.2.1 p hp).1⟩) N ?_
    intro h' k F' N'
    exact hQ h' _ ⟨vs, ss', l, sk⟩ pr (pk + 1) k F' N' hnd ⟨i1, rfl, i3, i4, i5, i6, fun x hx => i7 x (.tail _ hx), by simp only [nextX]; omega⟩ ⟨ty, rfl⟩
end
end Mine

end
section
namespace Mine
section
variable {prog' : Program} {w : World} {A : Around} {E : Value → Shared → Prop} {s : Shared} {env : Env} {h₀ : Heap} {x : Str} {body : List Stmt} {Q : Flow → Shared → Prop}
def FreeEnd4 (h₀ : Heap) (L : Addr) (I l : Addr) (oI ol : Obj) (J : (Str → Option Value) → List (Addr × Obj) → Prop) (s₁ : Shared) (Q : Flow → Shared → Prop) (f : Flow) (s₂ : Shared) : Prop :=
  match f with
  | .ret v => Q (.ret v) s₂
  | .brk => Q .next s₂
  | _ => ∃ h' tk' m' nx', s₂ = { s₁ with heap := h', toks := tk' } ∧ Fr h₀ L h' m' ∧ News h₀ L h' (nx' ++ [(I, oI), (l, ol)]) ∧ (∀ p ∈ nx', p.1 ≠ I ∧ p.1 ≠ l) ∧ J m' nx'
theorem ints_free4 {l : Addr} {vs : List Value} {ns : List Int} {nn : Nat} {lg : List (Addr × Obj)} {m₀ : Str → Option Value} (J : Nat → (Str → Option Value) → List (Addr × Obj) → Prop)
    (hh : A.handled = none) (hi : IntsAre vs ns) (F : Fr h₀ env.locals s.heap m₀) (N : News h₀ env.locals s.heap ((l, listOf vs.toArray nn) :: lg)) (hlg : ∀ p ∈ lg, p.1 ≠ l) (hj : J 0 m₀ lg)
    (turn : ∀ i n t m₁ nx h tk I oI ol, ns[i]? = some n → @Ne Nat I l → J i m₁ nx → (∀ p ∈ nx, p.1 ≠ I ∧ p.1 ≠ l) → Fr h₀ env.locals h (fun y => if y = x then some (.int n t) else m₁ y) → News h₀ env.locals h (nx ++ [(I, oI), (l, ol)]) →
      wpAny (model prog' w) A (execs body env) (FreeEnd4 h₀ env.locals I l oI ol (J (i + 1)) { s with heap := h, toks := tk } Q) E { s with heap := h, toks := tk })
    (done : ∀ m₁ nx h tk, J ns.length m₁ nx → Fr h₀ env.locals h m₁ → News h₀ env.locals h nx → Q .next { s with heap := h, toks := tk }) :
    wpAny (model prog' w) A (pyIter (.ref l)) (fun it s₂ => LoopAtV prog' w A h₀ env x body Q E it s₂) E s := by
  have z := N _ (.head _)
  have hls : s.heap.IsList l vs.toArray := ⟨_, z.1, rfl, nn, rfl⟩
  have hne : l ≠ s.heap.objs.size := Nat.ne_of_lt (Heap.lt_size z.1)
  have N0 : News h₀ env.locals s.heap lg := fun p hp => N p (.tail _ hp)
  refine wpAny_pyIter_list hls ?_
  have W := Walks.list (prog := prog') (w := w) hh s.heap.objs.size l hne vs.toArray
  have hlen : vs.toArray.size = ns.length := by simp [hi.length]
  rw [hlen] at W
  let J' : Nat → (Str → Option Value) → List (Addr × Obj) → Prop := fun i m₁ news₁ => (∀ p ∈ news₁, p.1 ≠ s.heap.objs.size ∧ p.1 ≠ l) ∧ J i m₁ news₁
  refine ⟨_, _, _, ns.length, _, _, m₀, lg, J', rfl, W, ?_, ?_, ?_, ⟨⟨_, Heap.get?_push_size _ rfl, rfl, rfl⟩, hls.at fun o e => Heap.get?_push_of_some _ e⟩, F.push _, (fun p hp => ⟨Heap.get?_push_of_some _ (N0 p hp).1, (N0 p hp).2⟩), ⟨fun p hp => ⟨Nat.ne_of_lt (Heap.lt_size (N0 p hp).1), hlg p hp⟩, hj⟩, ?_, ?_⟩
  · intro hm
    rcases List.mem_cons.mp hm with e | hm
    · exact absurd F.ns.lt (e ▸ Nat.lt_irrefl _)
    · exact z.2.1 (List.mem_singleton.mp hm).symm
  · intro b hb
    rw [List.mem_singleton.mp hb]
    exact next_is_new F
  · intro p hp hI
    exact absurd (Heap.lt_size (N0 p hp).1) ((List.mem_singleton.mp hI) ▸ Nat.lt_irrefl _)
  · rintro i v m₁ news₁ s₁ own ⟨hh', tk', rfl⟩ hin hP ⟨hadr, hJ⟩ hoff hown hat hall hst F₁ N₁
    obtain ⟨⟨oI, hoI, _⟩, ⟨ol, hol, _⟩⟩ := hst
    have mI : (s.heap.objs.size, oI) ∈ own := hall _ (.head _) (next_is_new F) _ hoI
    have ml : (l, ol) ∈ own := hall _ (.tail _ (.head _)) z.2.2 _ hol
    have hown2 : ∀ p ∈ own, p ∈ [(s.heap.objs.size, oI), (l, ol)] := by
      rintro ⟨a, o⟩ hp
      have h1 := hat _ hp
      rcases List.mem_cons.mp (hown _ hp) with e | e
      · dsimp only at e h1
        subst e
        rw [hoI] at h1
        cases h1
        exact .head _
      · have e := List.mem_singleton.mp e
        dsimp only at e h1
        subst e
        rw [hol] at h1
        cases h1
        exact .tail _ (.head _)
    have hlt' : i < ns.length := hin
    obtain ⟨t, hx⟩ := hi.get i ns[i] (by simp [hlt'])
    have hv : v = .int ns[i] t := by
      have hP' : vs[i]? = some v := by simpa using hP
      rw [hx] at hP'; exact (Option.some.inj hP').symm
    subst hv
    have N₂ : News h₀ env.locals hh' (news₁ ++ [(s.heap.objs.size, oI), (l, ol)]) := by
      intro p hp
      rcases List.mem_append.mp hp with hp | hp
      · exact N₁ p (List.mem_append_right _ hp)
      · simp only [List.mem_cons, List.not_mem_nil, or_false] at hp
        rcases hp with rfl | rfl
        · exact N₁ _ (List.mem_append_left _ mI)
        · exact N₁ _ (List.mem_append_left _ ml)
    refine wpAny_mono (turn i ns[i] t m₁ news₁ hh' tk' s.heap.objs.size oI ol (by simp [hlt']) (Ne.symm hne) hJ hadr F₁ N₂) (fun f s₂ p => ?_) fun _ _ e => e
    have fin : (∃ h' tk'' m' nx', s₂ = { s with heap := h', toks := tk'' } ∧ Fr h₀ env.locals h' m' ∧ News h₀ env.locals h' (nx' ++ [(s.heap.objs.size, oI), (l, ol)]) ∧ (∀ p ∈ nx', p.1 ≠ s.heap.objs.size ∧ p.1 ≠ l) ∧ J (i + 1) m' nx') → LoopStepU h₀ env.locals [s.heap.objs.size] own (J' (i + 1)) { s with heap := hh', toks := tk' } .next s₂ := by
      rintro ⟨h', tk, m', nx', e, F', N', ha, hm⟩
      refine ⟨rfl, h', tk, m', nx', e, F', fun p hp => ?_, fun p hp hq => (ha p hp).1 (List.mem_singleton.mp hq), ha, hm⟩
      rcases List.mem_append.mp hp with hp | hp
      · exact N' p (List.mem_append_right _ (hown2 p hp))
      · exact N' p (List.mem_append_left _ hp)
    cases f with
    | ret v => exact .ret p
    | brk => exact .brk p
    | next => exact .next (fin p)
    | cont => exact .cont (fin p)
  · rintro h' tk m' news' F' N' _ ⟨_, hJ⟩
    exact done m' news' h' tk hJ F' N'
end
end Mine

end
section
namespace Mine
section
variable {w : World} {A₀ : Around} {base h₀ : Heap} {outer : List Env} {L : Addr} {m mg mb : Str → Option Value} {loose : List Str} {mean : ExcName → Option Value} {s : Shared} {Q E : Value → Shared → Prop} {p : Program}
  {hdl : Option Value} {d u : Nat} {gs : Option (List Code)} {rest : List (Addr × Obj)} {ns : List (Str × NameKind)} {ig ic : Bool} {mo : List (Str × Const)} {gl bi : Addr} {cs : List (Str × Addr)} {qn : Str} {fo : Option Addr} {cdv : Value}
theorem leads_all {lx dx pb fs sa pa : Addr} {T1 : LxT} {b : Bool} {ev : Value} {c : L4} {stk : List (Addr × Obj)} {v : NS4} {pvs : List Value} {pk : Nat} {xs : List Str} {ss : List Src}
  (B : Below A₀ base outer h₀) (F : Fr h₀ L s.heap m) (X : (hd.heap_1 w.params).In h₀) (T : Top p loose mean mg mb h₀) (hdp : d < 700) (hun : u < 7000)
  (hX : LexI w.params lx pb c stk xs ss) (hI : LawI v pvs xs ss)
  (N : News h₀ L s.heap (led4 w.params T1 b ev pb lx dx fs c ++ (stk ++ ((pa, listOf pvs.toArray pk) :: (sa, listOf v.vs.reverse.toArray v.sk) :: (v.l ++ rest)))))
  (hQ : ∀ h' k, Fr h₀ L h' m → News h₀ L h' (led4 w.params T1 b ev pb lx dx fs c ++ (stk ++ ((pa, listOf pvs.toArray pk) :: (sa, listOf v.vs.reverse.toArray v.sk) :: (v.l ++ rest)))) → Q (.bool true) { s with heap := h', toks := k })
  : wpAny (model prog w) (ar none d (fenv ns ig ic mo gl cs qn fo cdv bi L :: outer) gs u) (call (.ref 747) [.ref lx, .ref sa]) Q E s := by
  obtain ⟨io, iod, kt, x, pos, tp, pbs, pn, nv, sv, ln, tl, tok, tt, fvs, fn⟩ := c
  obtain ⟨vs, ss', l, sk⟩ := v
  obtain ⟨i1, i2, i3, i4, i5, i6, i7, i8⟩ := hI
  dsimp only at i1 i2 N hQ
  subst i2
  obtain ⟨⟨t, r, st, e0, e1, e2, e3, hx8, hh, o2, o3, hsv, hcase, hstk⟩, _⟩ := hX
  dsimp only at e1 e2 hh
  subst e0 e1 e2
  have ok := i4 t (.head _)
  have hb : t.ln < 10 ^ 10 := by
    have := ok.b
    have h8 : ∀ l : List (Nat × Int), (∀ x ∈ l, (97 ≤ x.1 ∧ x.1 ≤ 100) ∧ 0 ≤ x.2) → 0 ≤ (l.map (·.2)).sum := by
      intro l hl
      induction l with
      | nil => simp
      | cons a q ih =>
        have := ih fun x hx => hl x (.tail _ hx)
        have := (hl a (.head _)).2
        simp only [List.map_cons, List.sum_cons]
        omega
    have h9 := h8 t.ws ok.w
    have := ok.d0
    omega
  cases i1 with
  | @cons a wl ak wk t1 t2 _ ws tups vs' _ l' q1 q2 =>
  refine leads4 (rest := led4 w.params T1 b ev pb lx dx fs ⟨io, iod, kt, x, pos, tp, pbs, pn, t.nv, sv, t.ln, tl, tok, tt, fvs, fn⟩ ++ (stk ++ ((pa, listOf pvs.toArray pk) :: (sa, listOf (Value.ref a :: vs').reverse.toArray sk) :: (((a, listOf [t.nv, .int t.ln t1, .ref wl, .int t.ld t2].toArray ak) :: (wl, listOf ws.toArray wk) :: (tups ++ l')) ++ rest))))
    (us := vs'.reverse) (a := a) (sa := sa) (ak := ak) (sk := sk) (wl := wl) (ld := t.ld) (t1 := t1) (t2 := t2) (wc := WC b) (io := io) (pb := pb) (fs := fs) (b := b) (ev := ev) (sv := sv) (tl := tl) (tt := tt) (tok := tok) (lt1 := T1) (dx := dx) B F X T (by omega) (by omega) hh ok.nm ok.l0 hb ?_ ?_
  · intro q hq
    rcases List.mem_cons.mp hq with rfl | hq
    · exact N _ (.tail _ (.tail _ (.tail _ (.head _))))
    · rcases List.mem_cons.mp hq with rfl | hq
      · exact N _ (.tail _ (.tail _ (.tail _ (.tail _ (.head _)))))
      · rcases List.mem_cons.mp hq with rfl | hq
        · rw [← List.reverse_cons]
          exact N _ (List.mem_append_right _ (List.mem_append_right _ (.tail _ (.head _))))
        · rcases List.mem_cons.mp hq with rfl | hq
          · exact N _ (List.mem_append_right _ (List.mem_append_right _ (.tail _ (.tail _ (.head _)))))
          · exact N q hq
  · intro h' k F' N'
    exact hQ h' k F' fun q hq => N' q (.tail _ (.tail _ (.tail _ (.tail _ hq))))
theorem lex_ptok {lx dx pb fs : Addr} {T1 : LxT} {b : Bool} {ev : Value} {c : L4} {stk : List (Addr × Obj)} {xs : List Str} {ss : List Src} {y : Str} {ty : Tok} (hap : Ap4 pb lx dx fs) (hlp : @LT.lt Nat _ lx pb)
  (B : Below A₀ base outer h₀) (F : Fr h₀ L s.heap m) (X : (hd.heap_1 w.params).In h₀) (T : Top p loose mean mg mb h₀) (hdp : d < 700) (hun : u < 7000)
  (hI : LexI w.params lx pb c stk xs ss) (hxs : xs.length < 1000) (hnd : ND (led4 w.params T1 b ev pb lx dx fs c ++ (stk ++ rest)))
  (N : News h₀ L s.heap (led4 w.params T1 b ev pb lx dx fs c ++ (stk ++ rest)))
  (hQ : ∀ h' c' k, Fr h₀ L h' m → News h₀ L h' (led4 w.params T1 b ev pb lx dx fs c' ++ (stk ++ rest)) → ND (led4 w.params T1 b ev pb lx dx fs c' ++ (stk ++ rest)) → LexI w.params lx pb c' stk (y :: xs) ss → c'.sv = c.sv → Q .none { s with heap := h', toks := k })
  : wpAny (model prog w) (ar none d (fenv ns ig ic mo gl cs qn fo cdv bi L :: outer) gs u) (call (.ref 661) [.ref lx, .str y ty]) Q E s := by
  obtain ⟨i1, i2, i3, i4⟩ := hI
  obtain ⟨io, iod, kt, x, pos, tp, pbs, pn, nv, sv, ln, tl, tok, tt, fvs, fn⟩ := c
  dsimp only at i2
  have nd := nd4 hnd
  have hl := i2.length
  refine push_tok (pbs := pbs) B F X T (by omega) (by omega) hap.1 hlp (rest := [(fs, dqO fvs fn), (io, instObj 587 iod), (iod, ioD w.params kt (S x) pos tp)] ++ (stk ++ rest)) ?_ (by omega) (nx_ord N) ?_
  · intro q hq
    rcases List.mem_append.mp hq with hq | hq
    · simp only [List.mem_cons, List.not_mem_nil, or_false] at hq
      rcases hq with rfl | rfl | rfl
      · exact Ne.symm hap.2.2.2.2.2
      · exact nd.a.2.1
      · exact nd.a.2.2.2.2.2.1
    · exact (nd.r q hq).2.2.1
  · intro h' k F' N'
    exact hQ h' ⟨io, iod, kt, x, pos, tp, .str y ty :: pbs, pn + 1, nv, sv, ln, tl, tok, tt, fvs, fn⟩ k F' (nx_ord2 N') hnd ⟨i1, .cons y ty i2, by simp only [List.length_cons]; omega, i4⟩ rfl
theorem nd_split {P : Params} {T1 : LxT} {b : Bool} {ev : Value} {pb lx dx fs : Addr} {c : L4} {stk rest : List (Addr × Obj)} (h : ND (led4 P T1 b ev pb lx dx fs c ++ (stk ++ rest))) : ∀ p ∈ stk ++ rest, p.1 ≠ c.io ∧ p.1 ≠ c.iod := fun p hp => ⟨((nd4 h).r p hp).1, ((nd4 h).r p hp).2.1⟩
theorem ps_o1 {g h : Heap} {a b c d e f : Addr × Obj} {r : List (Addr × Obj)} (N : News g L h ([a, b, c, d, e, f] ++ r)) : News g L h (d :: e :: f :: a :: b :: c :: r) := by
  intro q hq
  refine N q ?_
  simp only [List.mem_cons, List.cons_append, List.nil_append] at hq ⊢
  rcases hq with h | h | h | h | h | h | h <;> simp [h]
theorem ps_o2 {g h : Heap} {a' b' a b c d e f t : Addr × Obj} {r q : List (Addr × Obj)} (N : News g L h (a' :: b' :: d :: e :: f :: t :: a :: b :: c :: (r ++ q))) : News g L h ([a', b', c, d, e, f] ++ ((t :: a :: b :: r) ++ q)) := by
  intro z hz
  refine N z ?_
  simp only [List.mem_cons, List.cons_append, List.nil_append] at hz ⊢
  rcases hz with h | h | h | h | h | h | h | h | h | h <;> simp [h]
theorem lex_psrc {lx dx pb fs : Addr} {T1 : LxT} {b : Bool} {ev : Value} {c : L4} {stk : List (Addr × Obj)} {xs : List Str} {ss : List Src} {tx : List Nat} {t1 : Tok} {nv : Value} {ws : List (Nat × Int)} {ld : Int} (hap : Ap4 pb lx dx fs) (hlp : @LT.lt Nat _ lx pb)
  (B : Below A₀ base outer h₀) (F : Fr h₀ L s.heap m) (X : (hd.heap_1 w.params).In h₀) (T : Top p loose mean mg mb h₀) (hdp : d < 700) (hun : u < 7000)
  (hI : LexI w.params lx pb c stk xs ss) (hss : ss.length < 20) (hsv : ∃ t, c.sv = .str (Str.ofString " ") t) (htx : tx.length ≤ 8) (hnv : handedIn nv = true) (hr : RemW tx ws ld) (hnd : ND (led4 w.params T1 b ev pb lx dx fs c ++ (stk ++ rest)))
  (N : News h₀ L s.heap (led4 w.params T1 b ev pb lx dx fs c ++ (stk ++ rest)))
  (hQ : ∀ h' c' stk' k, Fr h₀ L h' m → News h₀ L h' (led4 w.params T1 b ev pb lx dx fs c' ++ (stk' ++ rest)) → ND (led4 w.params T1 b ev pb lx dx fs c' ++ (stk' ++ rest)) → LexI w.params lx pb c' stk' xs (⟨nv, 1, ws, ld⟩ :: ss) → c'.sv = c.sv → Q .none { s with heap := h', toks := k })
  : wpAny (model prog w) (ar none d (fenv ns ig ic mo gl cs qn fo cdv bi L :: outer) gs u) (call (.ref 669) [.ref lx, .str (S tx) t1, nv]) Q E s := by
  obtain ⟨i1, i2, i3, i4⟩ := hI
  obtain ⟨io, iod, kt, x, pos, tp, pbs, pn, nv0, sv, ln, tl, tok, tt, fvs, fn⟩ := c
  obtain ⟨t, r, st, e0, e1, e2, e3, hx8, hh, o2, o3, hsv0, hcase, hstk⟩ := i1
  dsimp only at i2 e1 e2 e3 hx8 hh o2 o3 hsv0 hcase hstk hsv
  have nd := nd4 hnd
  obtain ⟨p1, p2, p3, p4, p5, p6⟩ := hap
  have hfl := hstk.length
  have hst : st = .white := by
    obtain ⟨ts, hts⟩ := hsv
    cases st with
    | white => rfl
    | fin => rw [hts] at hsv0; cases hsv0
    | word =>
      rcases hcase with ⟨h, _⟩ | ⟨h, _⟩ <;> cases h
  subst hst
  have hrem : RemW (x.drop pos) t.ws t.ld := by
    rcases hcase with ⟨_, h⟩ | ⟨h, _⟩
    · exact h
    · cases h
  subst e0
  simp only [List.length_cons] at i4 hss
  refine push4 (io := io) (wc := WC b) (fvs := fvs) (fn := fn) (rest := (io, instObj 587 iod) :: (iod, ioD w.params kt (S x) pos tp) :: (pb, dqO pbs pn) :: (stk ++ rest)) B F X T (by omega) (by omega) (by rw [show (S tx).length = tx.length by simp [S, Str.length]]; omega) (by omega) hh (Nat.ne_of_lt p1) p4 p5 ?_ ?_ (ps_o1 N) ?_
  · exact List.forall_mem_cons.mpr ⟨nd.a.2.2.2.1, List.forall_mem_cons.mpr ⟨nd.a.2.2.2.2.2.2.2.1, List.forall_mem_cons.mpr ⟨Ne.symm p3, fun q hq => (nd.r q hq).2.2.2.2.1⟩⟩⟩
  · exact List.forall_mem_cons.mpr ⟨nd.a.2.2.2.2.1, List.forall_mem_cons.mpr ⟨nd.a.2.2.2.2.2.2.2.2, List.forall_mem_cons.mpr ⟨p6, fun q hq => (nd.r q hq).2.2.2.2.2⟩⟩⟩
  · intro h' io' iod' tp' kt' t' tl' k F' N' q1 q2 q3
    have g1 := q1.2.2.2
    have g3 := q3.2.2.2.2.2
    have f1 := allLt_of' g1
    have f3 := allLt_of' g3
    refine hQ h' ⟨io', iod', kt', tx, 0, t', pbs, pn, nv, sv, 1, tl', tok, tt, .ref tp' :: fvs, fn + 1⟩ ((tp', { cls := .type "tuple", data := .seq #[t.nv, .ref io, .int t.ln tl] }) :: (io, instObj 587 iod) :: (iod, ioD w.params kt (S x) pos tp) :: stk) k F' ?_ ?_ ⟨⟨_, _, .white, rfl, rfl, rfl, e3, htx, hnv, q1.1, q2, hsv0, .inl ⟨rfl, by simpa using hr⟩, ?_⟩, i2, i3, by simp only [List.length_cons]; omega⟩ rfl
    · rw [← e1, ← e2]
      exact ps_o2 N'
    · have l1 : @LT.lt Nat _ pb iod' := f1 (pb, _) (.tail _ (.tail _ (.head _)))
      have l2 : @LT.lt Nat _ io iod' := f1 (io, _) (.head _)
      have l3 : @LT.lt Nat _ iod iod' := f1 (iod, _) (.tail _ (.head _))
      have m1 : @LT.lt Nat _ pb tp' := f3 (pb, _) (.tail _ (.tail _ (.head _)))
      have m2 : @LT.lt Nat _ io tp' := f3 (io, _) (.head _)
      have m3 : @LT.lt Nat _ iod tp' := f3 (iod, _) (.tail _ (.head _))
      have l4 : ∀ p ∈ stk ++ rest, p.1 < iod' := fun p hp => f1 p (.tail _ (.tail _ (.tail _ hp)))
      have m4 : ∀ p ∈ stk ++ rest, p.1 < tp' := fun p hp => f3 p (.tail _ (.tail _ (.tail _ hp)))
      refine nd_led ⟨p1, p2, p3, p4, p5, p6⟩ (Nat.ne_of_gt q2) ⟨Nat.ne_of_gt (Nat.lt_trans l1 q2), Nat.ne_of_gt (Nat.lt_trans q1.1 q2), Nat.ne_of_gt (Nat.lt_trans q1.2.1 q2), Nat.ne_of_gt (Nat.lt_trans q1.2.2.1 q2), Nat.ne_of_gt l1, Nat.ne_of_gt q1.1, Nat.ne_of_gt q1.2.1, Nat.ne_of_gt q1.2.2.1⟩ ?_ ?_
      · refine List.forall_mem_cons.mpr ⟨⟨Nat.ne_of_gt q3.1, Nat.ne_of_gt q3.2.1, Nat.ne_of_gt m1, Nat.ne_of_gt q3.2.2.1, Nat.ne_of_gt q3.2.2.2.1, Nat.ne_of_gt q3.2.2.2.2.1⟩, List.forall_mem_cons.mpr ⟨⟨Nat.ne_of_lt (Nat.lt_trans l2 q2), Nat.ne_of_lt l2, nd.a.2.1, nd.a.2.2.1, nd.a.2.2.2.1, nd.a.2.2.2.2.1⟩, List.forall_mem_cons.mpr ⟨⟨Nat.ne_of_lt (Nat.lt_trans l3 q2), Nat.ne_of_lt l3, nd.a.2.2.2.2.2.1, nd.a.2.2.2.2.2.2.1, nd.a.2.2.2.2.2.2.2.1, nd.a.2.2.2.2.2.2.2.2⟩, fun p hp => ⟨Nat.ne_of_lt (Nat.lt_trans (l4 p hp) q2), Nat.ne_of_lt (l4 p hp), (nd.r p hp).2.2⟩⟩⟩⟩
      · exact nd_cons (List.forall_mem_cons.mpr ⟨Nat.ne_of_lt m2, List.forall_mem_cons.mpr ⟨Nat.ne_of_lt m3, fun p hp => Nat.ne_of_lt (m4 p hp)⟩⟩) (nd_cons (List.forall_mem_cons.mpr ⟨Ne.symm nd.a.1, fun p hp => (nd.r p hp).1⟩) (nd_cons (fun p hp => (nd.r p hp).2.1) nd.n))
    · exact .cons tp' io iod kt x pos tp tl t hrem hx8 (e1 ▸ hh) o2 o3 hstk
theorem lex_pop {lx dx pb fs : Addr} {T1 : LxT} {b : Bool} {ev : Value} {c : L4} {stk : List (Addr × Obj)} {xs : List Str} {t : Src} {ss : List Src} (hap : Ap4 pb lx dx fs)
  (B : Below A₀ base outer h₀) (F : Fr h₀ L s.heap m) (X : (hd.heap_1 w.params).In h₀) (T : Top p loose mean mg mb h₀) (hdp : d < 700) (hun : u < 7000)
  (hI : LexI w.params lx pb c stk xs (t :: ss)) (hss : ss ≠ []) (hnd : ND (led4 w.params T1 b ev pb lx dx fs c ++ (stk ++ rest)))
  (N : News h₀ L s.heap (led4 w.params T1 b ev pb lx dx fs c ++ (stk ++ rest)))
  (hQ : ∀ h' c' stk' k, Fr h₀ L h' m → News h₀ L h' (led4 w.params T1 b ev pb lx dx fs c' ++ (stk' ++ rest)) → ND (led4 w.params T1 b ev pb lx dx fs c' ++ (stk' ++ rest)) → LexI w.params lx pb c' stk' xs ss → (∃ t, c'.sv = .str (Str.ofString " ") t) → Q .none { s with heap := h', toks := k })
  : wpAny (model prog w) (ar none d (fenv ns ig ic mo gl cs qn fo cdv bi L :: outer) gs u) (call (.ref 676) [.ref lx]) Q E s := by
  obtain ⟨i1, i2, i3, i4⟩ := hI
  obtain ⟨io, iod, kt, x, pos, tp, pbs, pn, nv0, sv, ln, tl, tok, tt, fvs, fn⟩ := c
  obtain ⟨t', r, st, e0, e1, e2, e3, hx8, hh, o2, o3, hsv0, hcase, hstk⟩ := i1
  dsimp only at i2 e1 e2 e3 hx8 hh o2 o3 hsv0 hcase hstk
  cases e0
  have nd := nd4 hnd
  obtain ⟨nr, ⟨na1, na2, na3, na4, na5, na6, na7, na8, na9⟩, nn⟩ := nd
  dsimp only at nr na1 na2 na3 na4 na5 na6 na7 na8 na9
  have hfl := hstk.length
  simp only [List.length_cons] at i4
  cases hstk with
  | nil => exact absurd rfl hss
  | @cons tpa io2 iod2 kt2 x2 pos2 tp2 tn2 t2 vs r2 l g1 g2 g3 g4 g5 g6 =>
  have hpp := nd_pop nn
  have k1 := nr (tpa, _) (.head _)
  have k2 := nr (io2, _) (.tail _ (.head _))
  have k3 := nr (iod2, _) (.tail _ (.tail _ (.head _)))
  have k4 : ∀ p ∈ l ++ rest, p.1 ≠ io ∧ p.1 ≠ iod ∧ p.1 ≠ pb ∧ p.1 ≠ lx ∧ p.1 ≠ dx ∧ p.1 ≠ fs := fun p hp => nr p (.tail _ (.tail _ (.tail _ hp)))
  dsimp only at k1 k2 k3
  simp only [List.length_cons] at hfl i4
  refine pop4 (x := S x) (wc := WC b) (rest := (pb, dqO pbs pn) :: (io2, instObj 587 iod2) :: (iod2, ioD w.params kt2 (S x2) pos2 tp2) :: (l ++ rest)) B F X T (by omega) (by omega) (by omega) na8 na9 na7 (Ne.symm k1.2.1) (Nat.ne_of_lt hap.1) hap.2.2.2.1 (Ne.symm k1.2.2.2.2.1) hap.2.2.2.2.1 (Ne.symm k1.2.2.2.2.2) na1 na4 na5 ?c1 ?c2 ?c3 (pop_ord N) ?_
  case c1 => exact List.forall_mem_cons.mpr ⟨Ne.symm na6, List.forall_mem_cons.mpr ⟨k2.2.1, List.forall_mem_cons.mpr ⟨k3.2.1, fun p hp => (k4 p hp).2.1⟩⟩⟩
  case c2 => exact List.forall_mem_cons.mpr ⟨Ne.symm hap.2.2.1, List.forall_mem_cons.mpr ⟨k2.2.2.2.2.1, List.forall_mem_cons.mpr ⟨k3.2.2.2.2.1, fun p hp => (k4 p hp).2.2.2.2.1⟩⟩⟩
  case c3 => exact List.forall_mem_cons.mpr ⟨hap.2.2.2.2.2, List.forall_mem_cons.mpr ⟨k2.2.2.2.2.2, List.forall_mem_cons.mpr ⟨k3.2.2.2.2.2, fun p hp => (k4 p hp).2.2.2.2.2⟩⟩⟩
  intro h5 ts5 k5 F5 N5
  exact hQ h5 ⟨io2, iod2, kt2, x2, pos2, tp2, pbs, pn, t2.nv, .str (Str.ofString " ") ts5, t2.ln, tn2, tok, tt, vs, fn + 1⟩ l k5 F5 (pop_ord2 N5)
    (nd_led hap hpp.2.1 ⟨k2.2.2.1, k2.2.2.2.1, k2.2.2.2.2.1, k2.2.2.2.2.2, k3.2.2.1, k3.2.2.2.1, k3.2.2.2.2.1, k3.2.2.2.2.2⟩ (fun p hp => ⟨(hpp.1 p hp).2.1, (hpp.1 p hp).2.2, (k4 p hp).2.2⟩) hpp.2.2.2.2)
    ⟨⟨t2, r2, .white, rfl, rfl, rfl, e3, g2, g3, g4, g5, ⟨_, rfl⟩, .inl ⟨rfl, g1⟩, g6⟩, i2, i3, by simp only [List.length_cons]; omega⟩ ⟨_, rfl⟩
theorem ne_vt {w : World} {A : Around} {E : Value → Shared → Prop} {s : Shared} {Q : Value → Shared → Prop} {b : Bool} {ev endv v v' : Value} {o : Option Str} (h1 : VT ev o v) (h2 : VT endv o v') (e1 : EV b ev) (e2 : EV b endv) (h : Q (.bool false) s) : wpAny (model prog w) A (compareOp .NotEq v v') Q E s := by
  cases o with
  | some y =>
    obtain ⟨t, rfl⟩ := h1
    obtain ⟨u, rfl⟩ := h2
    exact P.ne_str (by simpa using h)
  | none =>
    have e3 : v = ev := h1
    have e4 : v' = endv := h2
    subst e3 e4
    unfold EV at e1 e2
    cases b with
    | true => simp only [if_true] at e1 e2; subst e1 e2; exact PySem.EqNone.ne_none_none h
    | false =>
      simp only [Bool.false_eq_true, if_false] at e1 e2
      obtain ⟨t, rfl⟩ := e1
      obtain ⟨u, rfl⟩ := e2
      exact P.ne_str (by simpa using h)
end
end Mine

end
section
namespace Mine
def Lw4 (g : Heap) (L : Addr) (s : Shared) (s' : Shared) : Prop :=
  ∃ h tk D vs nums nn m', s' = { s with heap := h, toks := tk } ∧ Fr g L h m' ∧ News g L h [(D, listOf (vs : List Value).toArray nn)] ∧ IntsAre vs nums ∧ nums ≠ [] ∧ nums.length ≤ 20 ∧ (∀ n ∈ nums, 0 ≤ n ∧ n < 10 ^ 10) ∧ m' (Str.ofString "numbers") = some (.ref D)
theorem lw4_mid {g h : Heap} {L D : Addr} {s : Shared} {tk nn : Nat} {vs : List Value} {nums : List Int} {m' : Str → Option Value} {l : List (Addr × Obj)} (F : Fr g L h m') (N : News g L h l) (hi : IntsAre vs nums) (h1 : nums ≠ []) (h2 : nums.length ≤ 20) (h5 : ∀ n ∈ nums, 0 ≤ n ∧ n < 10 ^ 10)
  (h3 : m' (Str.ofString "numbers") = some (.ref D)) (hl : (D, listOf vs.toArray nn) ∈ l) : Lw4 g L s { s with heap := h, toks := tk } :=
  ⟨h, tk, D, vs, nums, nn, m', rfl, F, fun p hp => by rw [List.mem_singleton.mp hp]; exact N _ hl, hi, h1, h2, h5, h3⟩
theorem lw4_if {w : World} {A : Around} {E : Value → Shared → Prop} {env : Env} {st : Stmt} {rest : List Stmt} {Q : Flow → Shared → Prop} {g : Heap} {L : Addr} {s : Shared}
    (h1 : wpAny (model prog w) A (exec st env) (fun f s' => match f with | .next => Lw4 g L s s' | f => Q f s') E s)
    (h2 : ∀ h tk D vs nums nn (m' : Str → Option Value), Fr g L h (fun y => if y = Str.ofString "numbers" then some (.ref D) else m' y) → News g L h [(D, listOf (vs : List Value).toArray nn)] → IntsAre vs nums → nums ≠ [] → nums.length ≤ 20 → (∀ n ∈ nums, 0 ≤ n ∧ n < 10 ^ 10) →
      wpAny (model prog w) A (execs rest env) Q E { s with heap := h, toks := tk }) : wpAny (model prog w) A (execs (st :: rest) env) Q E s :=
  execs_mid (Lw4 g L s) h1 (by
    rintro s' ⟨h, tk, D, vs, nums, nn, m', rfl, F', N', a, b, c, e, d⟩
    refine h2 h tk D vs nums nn m' ?_ N' a b c e
    have ee : (fun y => if y = Str.ofString "numbers" then some (.ref D) else m' y) = m' := by
      funext y
      by_cases hy : y = Str.ofString "numbers"
      · rw [if_pos hy, hy, d]
      · rw [if_neg hy]
    rw [ee]
    exact F')
theorem end_val {w : World} {A : Around} {E : Value → Shared → Prop} {Q : Value → Shared → Prop} {s : Shared} {env : Env} {e : Expr} {b : Bool} (h1 : wpAny (model prog w) A (eval e env) (fun v s' => EV b v ∧ ∃ k, s' = { s with toks := k }) E s) (h2 : ∀ v k, EV b v → Q v { s with toks := k }) :
    wpAny (model prog w) A (eval e env) Q E s := wpAny_mono h1 (fun v s' h => by obtain ⟨a, k, rfl⟩ := h; exact h2 v k a) fun _ _ x => x
theorem is_none {w : World} {A : Around} {E : Value → Shared → Prop} {Q : Value → Shared → Prop} {s : Shared} {b : Bool} {v : Value} (hE : EV b v) (h : Q (.bool b) s) : wpAny (model prog w) A (compareOp .Is v .none) Q E s := by
  unfold EV at hE
  cases b with
  | true => simp only [if_true] at hE; subst hE; exact fun _ _ _ => h
  | false => simp only [Bool.false_eq_true, if_false] at hE; obtain ⟨t, rfl⟩ := hE; exact fun _ _ _ => h
theorem upd_nd {d : Addr} {o o' : Obj} {post : List (Addr × Obj)} : ∀ {pre : List (Addr × Obj)}, ND (pre ++ (d, o) :: post) → Upd d o o' (pre ++ (d, o) :: post) (pre ++ (d, o') :: post)
  | [], h => .head fun p hp e => by
    unfold ND at h
    rw [List.nil_append, List.map_cons, List.nodup_cons] at h
    exact h.1 (e ▸ List.mem_map_of_mem (f := (·.1)) hp)
  | x :: pre, h => by
    unfold ND at h
    rw [List.cons_append, List.map_cons, List.nodup_cons] at h
    refine .tail (fun e => h.1 ?_) (upd_nd (pre := pre) h.2)
    rw [e, List.map_append]
    exact List.mem_append_right _ (.head _)
theorem S_length' (x : List Nat) : (S x).length = x.length := by simp [S, Str.length]
theorem num_ok {l : List Int} : ∀ n ∈ l.map (fun k' => (if k' < 0 then -k' else k').fmod (10 ^ Int.toNat 10)), 0 ≤ n ∧ n < 10 ^ 10 := by
  intro n hn
  obtain ⟨k, _, rfl⟩ := List.mem_map.mp hn
  exact ⟨Int.fmod_nonneg_of_pos _ (by decide), Int.fmod_lt_of_pos _ (by decide)⟩
end Mine

end
section
namespace Mine
section
variable {prog' : Program} {w : World} {A : Around} {E : Value → Shared → Prop} {Q : Flow → Shared → Prop} {s : Shared} {env : Env} {h₀ : Heap} {L : Addr}
def WfAt {σ : Type} (h₀ : Heap) (L : Addr) (s : Shared) (Led : σ → List (Addr × Obj)) (ps : σ → List (Str × Value)) (P : σ → Prop) (s₂ : Shared) : Prop :=
  ∃ (c' : σ) (h' : Heap) (tk : Nat) (m' : Str → Option Value), s₂ = { s with heap := h', toks := tk } ∧ Fr h₀ L h' m' ∧ News h₀ L h' (Led c') ∧ (∀ p ∈ ps c', m' p.1 = some p.2) ∧ P c'
def WfPost {σ : Type} (h₀ : Heap) (L : Addr) (s : Shared) (Led : σ → List (Addr × Obj)) (ps : σ → List (Str × Value)) (P : σ → Prop) (μ : σ → Nat) (n : Nat) (f : Flow) (s₂ : Shared) : Prop :=
  match f with
  | .ret _ => False
  | .brk => False
  | _ => WfAt h₀ L s Led ps (fun c => P c ∧ μ c < n) s₂
theorem wf_at {σ : Type} {Led : σ → List (Addr × Obj)} {ps : σ → List (Str × Value)} {m' : Str → Option Value} {P : σ → Prop} {h' : Heap} {tk : Nat} (c' : σ)
    (F : Fr h₀ L h' m') (N : News h₀ L h' (Led c')) (hk : ∀ p ∈ ps c', m' p.1 = some p.2) (hp : P c') : WfAt h₀ L s Led ps P { s with heap := h', toks := tk } := ⟨c', h', tk, m', rfl, F, N, hk, hp⟩
theorem wf_fr {h : Heap} {ps : List (Str × Value)} {m₁ : Str → Option Value} (h1 : ∀ p ∈ ps, m₁ p.1 = some p.2) (F : Fr h₀ L h m₁) : Fr h₀ L h (kstB m₁ ps) := by
  have em : kstB m₁ ps = m₁ := by
    funext y
    exact kstB_eq h1 fun _ => rfl
  rw [em]
  exact F
theorem wf_while {σ : Type} {test : Expr} {body : List Stmt} {pos : Pos} {m₀ : Str → Option Value} (Led : σ → List (Addr × Obj)) (ps : σ → List (Str × Value)) (P Ex : σ → Prop) (μ : σ → Nat) (c₀ : σ)
    (F : Fr h₀ L s.heap m₀) (N : News h₀ L s.heap (Led c₀)) (hk : ∀ p ∈ ps c₀, m₀ p.1 = some p.2) (hp : P c₀)
    (turn : ∀ (c : σ) (u : Str → Option Value) h tk, P c → Fr h₀ L h (kstB u (ps c)) → News h₀ L h (Led c) →
      wpAny (model prog' w) A (isTrue test env (eval test env)) (fun b s₂ =>
        if b = true then wpAny (model prog' w) A (execs body env) (WfPost h₀ L s Led ps P μ (μ c)) (fun _ _ => False) s₂ else WfAt h₀ L s Led ps Ex s₂) (fun _ _ => False) { s with heap := h, toks := tk })
    (after : ∀ (c : σ) (u : Str → Option Value) h tk, Ex c → Fr h₀ L h (kstB u (ps c)) → News h₀ L h (Led c) → Q .next { s with heap := h, toks := tk }) :
    wpAny (model prog' w) A (exec (.While test body [] pos) env) Q E s := by
  refine wpAny_mono (Q := fun f s' => f = .next ∧ WfAt h₀ L s Led ps Ex s') (E := fun _ _ => False) ?_ (fun f s' hh => ?_) (fun _ _ hh => hh.elim)
  · refine While_inv2 (fun n m nx => ∃ c : σ, nx = Led c ∧ μ c = n ∧ (∀ p ∈ ps c, m p.1 = some p.2) ∧ P c) F N ⟨c₀, rfl, rfl, hk, hp⟩ ?_ PassesOwn.never
    rintro n m₁ nx h tk F₁ N₁ ⟨c, hnx, hsz, h1, hp'⟩
    rw [hnx] at N₁
    rw [← hsz]
    refine wpAny_mono (turn c m₁ h tk hp' (wf_fr h1 F₁) N₁) (fun b s₂ p => ?_) fun _ _ x => x
    cases b with
    | false =>
      simp only [Bool.false_eq_true, if_false] at p ⊢
      exact ⟨by first | rfl | trivial, p⟩
    | true =>
      simp only [if_true] at p ⊢
      refine wpAny_mono p (fun f s₃ q => ?_) fun _ _ x => x
      cases f with
      | ret v => exact q.elim
      | brk => exact q.elim
      | next =>
        obtain ⟨c', h', tk', m', rfl, F', N', hk9, hp9, hm9⟩ := q
        exact ⟨h', tk', m', Led c', μ c', rfl, F', N', hm9, c', rfl, rfl, hk9, hp9⟩
      | cont =>
        obtain ⟨c', h', tk', m', rfl, F', N', hk9, hp9, hm9⟩ := q
        exact ⟨h', tk', m', Led c', μ c', rfl, F', N', hm9, c', rfl, rfl, hk9, hp9⟩
  · obtain ⟨rfl, c', h', tk', m', rfl, F', N', hk9, hb⟩ := hh
    exact after c' m' h' tk' hb (wf_fr hk9 F') N'
end
theorem l4n1 : ¬ Str.ofString "n" = Str.ofString "end" ∧ ¬ Str.ofString "n" = Str.ofString "lex" ∧ ¬ Str.ofString "n" = Str.ofString "stack" ∧ ¬ Str.ofString "n" = Str.ofString "pushed" ∧ ¬ Str.ofString "n" = Str.ofString "over" ∧ ¬ Str.ofString "n" = Str.ofString "deed" ∧ ¬ Str.ofString "n" = Str.ofString "token" ∧ ¬ Str.ofString "n" = Str.ofString "text" ∧ ¬ Str.ofString "n" = Str.ofString "source" ∧ ¬ Str.ofString "n" = Str.ofString "k" ∧ ¬ Str.ofString "n" = Str.ofString "x" ∧ ¬ Str.ofString "n" = Str.ofString "turn" ∧ ¬ Str.ofString "n" = Str.ofString "numbers" := by decide +kernel
theorem l4n2 : ¬ Str.ofString "end" = Str.ofString "n" ∧ ¬ Str.ofString "end" = Str.ofString "lex" ∧ ¬ Str.ofString "end" = Str.ofString "stack" ∧ ¬ Str.ofString "end" = Str.ofString "pushed" ∧ ¬ Str.ofString "end" = Str.ofString "over" ∧ ¬ Str.ofString "end" = Str.ofString "deed" ∧ ¬ Str.ofString "end" = Str.ofString "token" ∧ ¬ Str.ofString "end" = Str.ofString "text" ∧ ¬ Str.ofString "end" = Str.ofString "source" ∧ ¬ Str.ofString "end" = Str.ofString "k" ∧ ¬ Str.ofString "end" = Str.ofString "x" ∧ ¬ Str.ofString "end" = Str.ofString "turn" ∧ ¬ Str.ofString "end" = Str.ofString "numbers" := by decide +kernel
theorem l4n3 : ¬ Str.ofString "lex" = Str.ofString "n" ∧ ¬ Str.ofString "lex" = Str.ofString "end" ∧ ¬ Str.ofString "lex" = Str.ofString "stack" ∧ ¬ Str.ofString "lex" = Str.ofString "pushed" ∧ ¬ Str.ofString "lex" = Str.ofString "over" ∧ ¬ Str.ofString "lex" = Str.ofString "deed" ∧ ¬ Str.ofString "lex" = Str.ofString "token" ∧ ¬ Str.ofString "lex" = Str.ofString "text" ∧ ¬ Str.ofString "lex" = Str.ofString "source" ∧ ¬ Str.ofString "lex" = Str.ofString "k" ∧ ¬ Str.ofString "lex" = Str.ofString "x" ∧ ¬ Str.ofString "lex" = Str.ofString "turn" ∧ ¬ Str.ofString "lex" = Str.ofString "numbers" := by decide +kernel
theorem l4n4 : ¬ Str.ofString "stack" = Str.ofString "n" ∧ ¬ Str.ofString "stack" = Str.ofString "end" ∧ ¬ Str.ofString "stack" = Str.ofString "lex" ∧ ¬ Str.ofString "stack" = Str.ofString "pushed" ∧ ¬ Str.ofString "stack" = Str.ofString "over" ∧ ¬ Str.ofString "stack" = Str.ofString "deed" ∧ ¬ Str.ofString "stack" = Str.ofString "token" ∧ ¬ Str.ofString "stack" = Str.ofString "text" ∧ ¬ Str.ofString "stack" = Str.ofString "source" ∧ ¬ Str.ofString "stack" = Str.ofString "k" ∧ ¬ Str.ofString "stack" = Str.ofString "x" ∧ ¬ Str.ofString "stack" = Str.ofString "turn" ∧ ¬ Str.ofString "stack" = Str.ofString "numbers" := by decide +kernel
theorem l4n5 : ¬ Str.ofString "pushed" = Str.ofString "n" ∧ ¬ Str.ofString "pushed" = Str.ofString "end" ∧ ¬ Str.ofString "pushed" = Str.ofString "lex" ∧ ¬ Str.ofString "pushed" = Str.ofString "stack" ∧ ¬ Str.ofString "pushed" = Str.ofString "over" ∧ ¬ Str.ofString "pushed" = Str.ofString "deed" ∧ ¬ Str.ofString "pushed" = Str.ofString "token" ∧ ¬ Str.ofString "pushed" = Str.ofString "text" ∧ ¬ Str.ofString "pushed" = Str.ofString "source" ∧ ¬ Str.ofString "pushed" = Str.ofString "k" ∧ ¬ Str.ofString "pushed" = Str.ofString "x" ∧ ¬ Str.ofString "pushed" = Str.ofString "turn" ∧ ¬ Str.ofString "pushed" = Str.ofString "numbers" := by decide +kernel
theorem l4n6 : ¬ Str.ofString "over" = Str.ofString "n" ∧ ¬ Str.ofString "over" = Str.ofString "end" ∧ ¬ Str.ofString "over" = Str.ofString "lex" ∧ ¬ Str.ofString "over" = Str.ofString "stack" ∧ ¬ Str.ofString "over" = Str.ofString "pushed" ∧ ¬ Str.ofString "over" = Str.ofString "deed" ∧ ¬ Str.ofString "over" = Str.ofString "token" ∧ ¬ Str.ofString "over" = Str.ofString "text" ∧ ¬ Str.ofString "over" = Str.ofString "source" ∧ ¬ Str.ofString "over" = Str.ofString "k" ∧ ¬ Str.ofString "over" = Str.ofString "x" ∧ ¬ Str.ofString "over" = Str.ofString "turn" ∧ ¬ Str.ofString "over" = Str.ofString "numbers" := by decide +kernel
structure St4 where
  c : L4
  stk : List (Addr × Obj)
  v : NS4
  pvs : List Value
  pk : Nat
  xs : List Str
  ss : List Src
  ov : Bool
  n : Int
  tn : Tok
abbrev tail5 (sa pa : Addr) (z : St4) : List (Addr × Obj) := (pa, listOf z.pvs.toArray z.pk) :: (sa, listOf z.v.vs.reverse.toArray z.v.sk) :: z.v.l
def led5 (P : Params) (T1 : LxT) (b : Bool) (ev : Value) (pb lx dx fs sa pa : Addr) (z : St4) : List (Addr × Obj) := led4 P T1 b ev pb lx dx fs z.c ++ (z.stk ++ tail5 sa pa z)
abbrev ps5 (lx sa pa : Addr) (endv : Value) (ov : Bool) : List (Str × Value) := [(Str.ofString "end", endv), (Str.ofString "lex", .ref lx), (Str.ofString "stack", .ref sa), (Str.ofString "pushed", .ref pa), (Str.ofString "over", .bool ov)]
abbrev ps6 (lx sa pa : Addr) (endv : Value) (z : St4) : List (Str × Value) := (Str.ofString "n", .int z.n z.tn) :: ps5 lx sa pa endv z.ov
structure Inv5 (P : Params) (lx pb : Addr) (z : St4) : Prop where
  x : LexI P lx pb z.c z.stk z.xs z.ss
  i : LawI z.v z.pvs z.xs z.ss
  o : z.ov = false → ∃ t, z.c.sv = .str (Str.ofString " ") t
theorem led5_app {P : Params} {T1 : LxT} {b : Bool} {ev : Value} {pb lx dx fs sa pa : Addr} {z : St4} {R : List (Addr × Obj)} : led5 P T1 b ev pb lx dx fs sa pa z ++ R = led4 P T1 b ev pb lx dx fs z.c ++ (z.stk ++ ((pa, listOf z.pvs.toArray z.pk) :: (sa, listOf z.v.vs.reverse.toArray z.v.sk) :: (z.v.l ++ R))) := by
  unfold led5 tail5
  rw [List.append_assoc, List.append_assoc]
  rfl
def J5 (P : Params) (T1 : LxT) (b : Bool) (ev endv : Value) (pb lx dx fs sa pa : Addr) (i : Nat) (m : Str → Option Value) (nx : List (Addr × Obj)) : Prop :=
  ∃ (z : St4) (m' : Str → Option Value), m = kstB m' (ps5 lx sa pa endv z.ov) ∧ nx = led5 P T1 b ev pb lx dx fs sa pa z ∧ Inv5 P lx pb z ∧ ND (led5 P T1 b ev pb lx dx fs sa pa z) ∧ z.xs.length ≤ 13 * i
def P6 (P : Params) (T1 : LxT) (b : Bool) (ev : Value) (pb lx dx fs sa pa : Addr) (R : List (Addr × Obj)) (i : Nat) (z : St4) : Prop :=
  Inv5 P lx pb z ∧ ND (led5 P T1 b ev pb lx dx fs sa pa z ++ R) ∧ (0 ≤ z.n ∧ z.n ≤ 10000000001) ∧ ∃ j, z.n < 8 ^ j ∧ z.xs.length + j ≤ 13 * i + 13
def X6 (P : Params) (T1 : LxT) (b : Bool) (ev : Value) (pb lx dx fs sa pa : Addr) (R : List (Addr × Obj)) (i : Nat) (z : St4) : Prop :=
  Inv5 P lx pb z ∧ ND (led5 P T1 b ev pb lx dx fs sa pa z ++ R) ∧ z.xs.length ≤ 13 * i + 13
theorem ps6_5 {lx sa pa : Addr} {endv : Value} {z : St4} {u : Str → Option Value} : ∀ p ∈ ps5 lx sa pa endv z.ov, kstB u (ps6 lx sa pa endv z) p.1 = some p.2 := by
  intro p hp
  simp only [ps5, List.mem_cons, List.not_mem_nil, or_false] at hp
  rcases hp with rfl | rfl | rfl | rfl | rfl <;> simp only [kstB, l4n2, l4n3, l4n4, l4n5, l4n6, if_true, if_false]
theorem ps6_6 {lx sa pa : Addr} {endv : Value} {z : St4} {u : Str → Option Value} : ∀ p ∈ ps6 lx sa pa endv z, kstB u (ps6 lx sa pa endv z) p.1 = some p.2 := by
  intro p hp
  rcases List.mem_cons.mp hp with rfl | hp
  · show kstB u (ps6 lx sa pa endv z) (Str.ofString "n") = some (.int z.n z.tn)
    simp only [kstB, if_true]
  · exact ps6_5 p hp
theorem p6_step {n : Int} {j a b : Nat} (h : 0 < n) (hn : n < 8 ^ j) (hl : a + j ≤ b) : ∃ j', (n - 1).fdiv 8 < 8 ^ j' ∧ a + 1 + j' ≤ b := by
  cases j with
  | zero => simp at hn; omega
  | succ j =>
    rw [Int.pow_succ] at hn
    refine ⟨j, ?_, by omega⟩
    rw [Int.fdiv_eq_ediv_of_nonneg _ (by decide)]
    omega
theorem nm_handed {v : Value} (h : NmOk v) : handedIn v = true := by
  rcases h with rfl | ⟨y, t, rfl, _⟩ <;> rfl
theorem all6p {α : Type} {P : α → Prop} {a b c d e f : α} (ha : P a) (hb : P b) (hc : P c) (hd : P d) (he : P e) (hf : P f) : ∀ p ∈ [a, b, c, d, e, f], P p := by
  intro p hp
  simp only [List.mem_cons, List.not_mem_nil, or_false] at hp
  rcases hp with rfl | rfl | rfl | rfl | rfl | rfl <;> assumption
theorem nd_two_r {l : List (Addr × Obj)} {I q : Addr} {oI oq : Obj} (h : ND l) (hd : ∀ p ∈ l, p.1 ≠ I ∧ p.1 ≠ q) (hI : @Ne Nat I q) : ND (l ++ [(I, oI), (q, oq)]) := by
  unfold ND
  rw [List.map_append, List.nodup_append]
  refine ⟨h, by simpa using hI, ?_⟩
  intro a ha b hb
  obtain ⟨x, hx, rfl⟩ := List.mem_map.mp ha
  simp only [List.map_cons, List.map_nil, List.mem_cons, List.not_mem_nil, or_false] at hb
  rcases hb with rfl | rfl
  · exact (hd x hx).1
  · exact (hd x hx).2
theorem nd_left {l r : List (Addr × Obj)} (h : ND (l ++ r)) : ND l := by
  unfold ND at h ⊢
  rw [List.map_append, List.nodup_append] at h
  exact h.1
theorem nd_off {l : List (Addr × Obj)} {I q : Addr} {oI oq : Obj} (h : ND (l ++ [(I, oI), (q, oq)])) : ∀ p ∈ l, p.1 ≠ I ∧ p.1 ≠ q := by
  unfold ND at h
  rw [List.map_append, List.nodup_append] at h
  intro p hp
  have hm : p.1 ∈ l.map (·.1) := List.mem_map_of_mem (f := (·.1)) hp
  exact ⟨h.2.2 _ hm I (.head _), h.2.2 _ hm q (.tail _ (.head _))⟩
theorem j5_mk {g h : Heap} {L : Addr} {m : Str → Option Value} {P : Params} {T1 : LxT} {b : Bool} {ev endv : Value} {pb lx dx fs sa pa : Addr} {i : Nat} (z : St4) (_F : Fr g L h m) (hk : ∀ p ∈ ps5 lx sa pa endv z.ov, m p.1 = some p.2) (h1 : Inv5 P lx pb z) (h2 : ND (led5 P T1 b ev pb lx dx fs sa pa z)) (h3 : z.xs.length ≤ 13 * i) :
  J5 P T1 b ev endv pb lx dx fs sa pa i m (led5 P T1 b ev pb lx dx fs sa pa z) :=
  ⟨z, m, (funext fun _ => (kstB_eq hk fun _ => rfl).symm), rfl, h1, h2, h3⟩
theorem j5_end {g h h2 : Heap} {L I q : Addr} {oI oq : Obj} {s : Shared} {Q : Flow → Shared → Prop} {tk tk2 : Nat} {m2 : Str → Option Value} {P : Params} {T1 : LxT} {b : Bool} {ev endv : Value} {pb lx dx fs sa pa : Addr} {i : Nat} {z : St4}
  (F : Fr g L h2 m2) (N : News g L h2 (led5 P T1 b ev pb lx dx fs sa pa z ++ [(I, oI), (q, oq)])) (hk : ∀ p ∈ ps5 lx sa pa endv z.ov, m2 p.1 = some p.2) (hX : X6 P T1 b ev pb lx dx fs sa pa [(I, oI), (q, oq)] i z) :
  FreeEnd4 g L I q oI oq (J5 P T1 b ev endv pb lx dx fs sa pa (i + 1)) { s with heap := h, toks := tk } Q .next { s with heap := h2, toks := tk2 } := by
  obtain ⟨h1, h2', h3⟩ := hX
  refine ⟨h2, tk2, m2, led5 P T1 b ev pb lx dx fs sa pa z, rfl, F, N, nd_off h2', z, m2, ?_, rfl, h1, nd_left h2', by omega⟩
  funext y
  exact (kstB_eq hk fun _ => rfl).symm
theorem start5 {g h : Heap} {L : Addr} {pa sa i1 i2 i3 i4 i5 i6 q a wl D : Addr × Obj} {tups : List (Addr × Obj)} (N : News g L h (pa :: sa :: i1 :: i2 :: i3 :: i4 :: i5 :: i6 :: (q :: a :: wl :: tups ++ [D]))) :
  News g L h (D :: ([i1, i2, i3, i4, i5, i6] ++ ([] ++ (pa :: sa :: (a :: wl :: (tups ++ [])))))) := by
  intro z hz
  refine N z ?_
  simp only [List.mem_cons, List.cons_append, List.nil_append, List.append_nil, List.mem_append, List.not_mem_nil, or_false] at hz ⊢
  rcases hz with h | h | h | h | h | h | h | h | h | h | h | h <;> simp [h]
theorem start_nd {P : Params} {T1 : LxT} {b : Bool} {ev : Value} {pb lx dx fs pa sa q a wl D : Addr} {op os oq oa oa' ow ow' oD oD2 : Obj} {c : L4} {tups : List (Addr × Obj)} (hap : Ap4 pb lx dx fs) (o2 : @LT.lt Nat _ lx c.iod) (o3 : @LT.lt Nat _ c.iod c.io) (o4 : @LT.lt Nat _ c.io pb) (o5 : @LT.lt Nat _ pb fs)
  (ha : ∀ p ∈ (q, oq) :: (a, oa) :: (wl, ow) :: tups ++ [(D, oD)], p.1 < dx) (hs : @LT.lt Nat _ fs sa) (hp : @LT.lt Nat _ sa pa) (hnd : ND ((q, oq) :: (a, oa) :: (wl, ow) :: (tups ++ [(D, oD2)]))) :
  ND (led4 P T1 b ev pb lx dx fs c ++ ([] ++ ((pa, op) :: (sa, os) :: ((a, oa') :: (wl, ow') :: (tups ++ []))))) ∧ ∀ p ∈ led4 P T1 b ev pb lx dx fs c ++ ([] ++ ((pa, op) :: (sa, os) :: ((a, oa') :: (wl, ow') :: (tups ++ [])))), p.1 ≠ D := by
  have o1 := hap.1
  have c1 := Nat.lt_trans o1 o2
  have c2 := Nat.lt_trans c1 o3
  have c3 := Nat.lt_trans c2 o4
  have c4 := Nat.lt_trans c3 o5
  have c5 := Nat.lt_trans c4 hs
  have c6 := Nat.lt_trans c5 hp
  have d1 : @LT.lt Nat _ lx c.io := Nat.lt_trans o2 o3
  have d2 : @LT.lt Nat _ lx sa := Nat.lt_trans (Nat.lt_trans d1 o4) (Nat.lt_trans o5 hs)
  have d3 : @LT.lt Nat _ c.iod sa := Nat.lt_trans (Nat.lt_trans o3 o4) (Nat.lt_trans o5 hs)
  have d4 : @LT.lt Nat _ c.io sa := Nat.lt_trans o4 (Nat.lt_trans o5 hs)
  have d5 : @LT.lt Nat _ pb sa := Nat.lt_trans o5 hs
  have hD : D < dx := ha (D, oD) (List.mem_append_right _ (.head _))
  have hA : ∀ p ∈ (a, oa') :: (wl, ow') :: (tups ++ []), p.1 < dx := by
    intro p hp
    rcases List.mem_cons.mp hp with rfl | hp
    · exact ha (a, oa) (.tail _ (.head _))
    · rcases List.mem_cons.mp hp with rfl | hp
      · exact ha (wl, ow) (.tail _ (.tail _ (.head _)))
      · rw [List.append_nil] at hp
        exact ha p (.tail _ (.tail _ (.tail _ (List.mem_append_left _ hp))))
  have hN : ND ((a, oa') :: (wl, ow') :: (tups ++ [])) := by
    unfold ND at hnd ⊢
    refine hnd.sublist ?_
    simp only [List.cons_append, List.map_cons, List.append_nil, List.map_append]
    exact List.Sublist.cons _ (List.Sublist.cons_cons _ (List.Sublist.cons_cons _ (List.sublist_append_left _ _)))
  constructor
  · refine nd_led hap (Nat.ne_of_gt o3) ⟨Nat.ne_of_lt o4, Nat.ne_of_gt d1, Nat.ne_of_gt c2, Nat.ne_of_lt (Nat.lt_trans o4 o5), Nat.ne_of_lt (Nat.lt_trans o3 o4), Nat.ne_of_gt o2, Nat.ne_of_gt c1, Nat.ne_of_lt (Nat.lt_trans (Nat.lt_trans o3 o4) o5)⟩ ?_ ?_
    · refine List.forall_mem_cons.mpr ⟨⟨Nat.ne_of_gt (Nat.lt_trans d4 hp), Nat.ne_of_gt (Nat.lt_trans d3 hp), Nat.ne_of_gt (Nat.lt_trans d5 hp), Nat.ne_of_gt (Nat.lt_trans d2 hp), Nat.ne_of_gt c6, Nat.ne_of_gt (Nat.lt_trans hs hp)⟩, List.forall_mem_cons.mpr ⟨⟨Nat.ne_of_gt d4, Nat.ne_of_gt d3, Nat.ne_of_gt d5, Nat.ne_of_gt d2, Nat.ne_of_gt c5, Nat.ne_of_gt hs⟩, fun p hp => ?_⟩⟩
      have hl := hA p hp
      exact ⟨Nat.ne_of_lt (Nat.lt_trans hl c2), Nat.ne_of_lt (Nat.lt_trans hl c1), Nat.ne_of_lt (Nat.lt_trans hl c3), Nat.ne_of_lt (Nat.lt_trans hl o1), Nat.ne_of_lt hl, Nat.ne_of_lt (Nat.lt_trans hl c4)⟩
    · exact nd_cons (List.forall_mem_cons.mpr ⟨Nat.ne_of_lt hp, fun p hq => Nat.ne_of_lt (Nat.lt_trans (hA p hq) c6)⟩) (nd_cons (fun p hq => Nat.ne_of_lt (Nat.lt_trans (hA p hq) c5)) hN)
  · intro p hp'
    rcases List.mem_append.mp hp' with hp' | hp'
    · simp only [led4, List.mem_cons, List.not_mem_nil, or_false] at hp'
      rcases hp' with rfl | rfl | rfl | rfl | rfl | rfl
      · exact Nat.ne_of_gt (Nat.lt_trans hD c2)
      · exact Nat.ne_of_gt (Nat.lt_trans hD c1)
      · exact Nat.ne_of_gt (Nat.lt_trans hD c3)
      · exact Nat.ne_of_gt (Nat.lt_trans hD o1)
      · exact Nat.ne_of_gt hD
      · exact Nat.ne_of_gt (Nat.lt_trans hD c4)
    · rcases List.mem_cons.mp hp' with rfl | hp'
      · exact Nat.ne_of_gt (Nat.lt_trans hD c6)
      · rcases List.mem_cons.mp hp' with rfl | hp'
        · exact Nat.ne_of_gt (Nat.lt_trans hD c5)
        · have hm : p.1 ∈ ((a, oa') :: (wl, ow') :: (tups ++ [])).map (·.1) := List.mem_map_of_mem (f := (·.1)) hp'
          unfold ND at hnd
          rw [List.append_nil] at hm
          have h2 : (((q, oq) :: (a, oa) :: (wl, ow) :: tups).map (·.1) ++ [D]).Nodup := by
            have e : ((q, oq) :: (a, oa) :: (wl, ow) :: (tups ++ [(D, oD2)])) = ((q, oq) :: (a, oa) :: (wl, ow) :: tups) ++ [(D, oD2)] := rfl
            rw [e, List.map_append] at hnd
            exact hnd
          rw [List.nodup_append] at h2
          exact h2.2.2 p.1 (.tail _ hm) D (.head _)
theorem rot_news {g h : Heap} {L : Addr} {A S l R : List (Addr × Obj)} {p s : Addr × Obj} (N : News g L h (A ++ (S ++ (p :: s :: (l ++ R))))) : News g L h (p :: s :: (l ++ (R ++ (A ++ S)))) := by
  intro q hq
  refine N q ?_
  simp only [List.mem_cons, List.mem_append] at hq ⊢
  rcases hq with h | h | h | h | h | h <;> simp [h]
theorem rot_back {g h : Heap} {L : Addr} {A S l R : List (Addr × Obj)} {p s : Addr × Obj} (N : News g L h (p :: s :: (l ++ (R ++ (A ++ S))))) : News g L h (A ++ (S ++ (p :: s :: (l ++ R)))) := by
  intro q hq
  refine N q ?_
  simp only [List.mem_cons, List.mem_append] at hq ⊢
  rcases hq with h | h | h | h | h | h <;> simp [h]
theorem rot_perm {A S l R : List (Addr × Obj)} {p s : Addr × Obj} : (A ++ (S ++ (p :: s :: (l ++ R)))).Perm (p :: s :: (l ++ (R ++ (A ++ S)))) := by
  have h1 : (A ++ (S ++ (p :: s :: (l ++ R)))) = (A ++ S) ++ (p :: s :: (l ++ R)) := by simp
  have h2 : (p :: s :: (l ++ (R ++ (A ++ S)))) = (p :: s :: (l ++ R)) ++ (A ++ S) := by simp
  rw [h1, h2]
  exact List.perm_append_comm
theorem rot_nd {A S l R : List (Addr × Obj)} {p s : Addr × Obj} (h : ND (A ++ (S ++ (p :: s :: (l ++ R))))) : ND (p :: s :: (l ++ (R ++ (A ++ S)))) := nd_perm h rot_perm
theorem rot_ndb {A S l R : List (Addr × Obj)} {p s : Addr × Obj} (h : ND (p :: s :: (l ++ (R ++ (A ++ S))))) : ND (A ++ (S ++ (p :: s :: (l ++ R)))) := nd_perm h rot_perm.symm
theorem nextX_len {xs : List Str} {ss : List Src} : (nextX xs ss).2.1.length ≤ xs.length := by
  cases xs with
  | nil => exact Nat.le_refl _
  | cons a r => exact Nat.le_succ _
theorem eq_vt {w : World} {A : Around} {E : Value → Shared → Prop} {s : Shared} {Q : Value → Shared → Prop} {b : Bool} {endv v : Value} {o : Option Str} (h1 : VT endv o v) (e2 : EV b endv) (h : ∀ r, (o = none → r = true) → Q (.bool r) s) : wpAny (model prog w) A (compareOp .Eq v endv) Q E s := by
  unfold EV at e2
  cases o with
  | some y =>
    obtain ⟨t, rfl⟩ := h1
    cases b with
    | true => simp only [if_true] at e2; subst e2; exact PySem.EqNone.eq_str_none (h _ (fun e => by cases e))
    | false =>
      simp only [Bool.false_eq_true, if_false] at e2
      obtain ⟨u, rfl⟩ := e2
      exact P.eq_str (h _ (fun e => by cases e))
  | none =>
    have e4 : v = endv := h1
    subst e4
    cases b with
    | true => simp only [if_true] at e2; subst e2; exact PySem.EqNone.eq_none_none (h _ (fun _ => rfl))
    | false =>
      simp only [Bool.false_eq_true, if_false] at e2
      obtain ⟨u, rfl⟩ := e2
      exact P.eq_str (h _ (fun _ => by simp))
theorem news_perm {g h : Heap} {L : Addr} {l l' : List (Addr × Obj)} (N : News g L h l) (hp : l.Perm l') : News g L h l' := fun q hq => N q (hp.mem_iff.mpr hq)
theorem perm_in {A S T tups : List (Addr × Obj)} {a wl : Addr × Obj} : (a :: wl :: (tups ++ (A ++ (S ++ T)))).Perm (A ++ (S ++ (T ++ (a :: wl :: tups)))) := by
  have e1 : (a :: wl :: (tups ++ (A ++ (S ++ T)))) = (a :: wl :: tups) ++ (A ++ (S ++ T)) := rfl
  have e2 : (A ++ (S ++ (T ++ (a :: wl :: tups)))) = (A ++ (S ++ T)) ++ (a :: wl :: tups) := by simp
  rw [e1, e2]
  exact List.perm_append_comm
theorem perm_st {A S l R tups : List (Addr × Obj)} {p s a wl : Addr × Obj} : (A ++ (S ++ ((p :: s :: (l ++ R)) ++ (a :: wl :: tups)))).Perm (A ++ (S ++ (p :: s :: ((a :: wl :: (tups ++ l)) ++ R)))) := by
  refine List.Perm.append_left _ (List.Perm.append_left _ ?_)
  refine List.Perm.cons _ (List.Perm.cons _ ?_)
  have e : (a :: wl :: (tups ++ l)) ++ R = (a :: wl :: tups) ++ (l ++ R) := by simp
  rw [e]
  exact List.perm_append_comm
theorem nd_tl {x : Addr × Obj} {l : List (Addr × Obj)} (h : ND (x :: l)) : ND l := by
  unfold ND at h ⊢
  rw [List.map_cons, List.nodup_cons] at h
  exact h.2
theorem src_ok {nv : Value} {ws : List (Nat × Int)} {ld : Int} {tx : List Nat} (hnv : NmOk nv) (hr : RemW tx ws ld) (hw : ws.length < 4) (ht : tx.length ≤ 8) : SrcOk ⟨nv, 1, ws, ld⟩ := by
  have hr0 := hr.ok
  exact ⟨hnv, (show (0 : Int) ≤ 1 by decide), hr0.1, hr0.2.1, by have := hr0.2.2; dsimp only; omega, by dsimp only; omega⟩
theorem nd_eq {l l' : List (Addr × Obj)} (h : ND l) (e : l.map (·.1) = l'.map (·.1)) : ND l' := by
  unfold ND at h ⊢
  rw [← e]
  exact h
theorem upd_sa {A S X Y : List (Addr × Obj)} {p : Addr × Obj} {sa : Addr} {o o' : Obj} (h : ND (A ++ (S ++ ((p :: (sa, o) :: X) ++ Y)))) : Upd sa o o' (A ++ (S ++ ((p :: (sa, o) :: X) ++ Y))) (A ++ (S ++ ((p :: (sa, o') :: X) ++ Y))) := by
  have e : ∀ o : Obj, (A ++ (S ++ ((p :: (sa, o) :: X) ++ Y))) = (A ++ (S ++ [p])) ++ (sa, o) :: (X ++ Y) := fun o => by simp
  rw [e] at h
  rw [e, e]
  exact upd_nd h
theorem news_more {g h : Heap} {L : Addr} {l : List (Addr × Obj)} {x : Addr × Obj} (N : News g L h l) (hx : x ∈ l) : News g L h (x :: l) := by
  intro q hq
  rcases List.mem_cons.mp hq with rfl | hq
  · exact N _ hx
  · exact N q hq
theorem upd_pa {A S X : List (Addr × Obj)} {pa : Addr} {o o' : Obj} (h : ND (A ++ (S ++ ((pa, o) :: X)))) : Upd pa o o' (A ++ (S ++ ((pa, o) :: X))) (A ++ (S ++ ((pa, o') :: X))) := by
  have e : ∀ o : Obj, (A ++ (S ++ ((pa, o) :: X))) = (A ++ S) ++ (pa, o) :: X := fun o => by simp
  rw [e] at h
  rw [e, e]
  exact upd_nd h
theorem item_w {k : Int} (h0 : 0 ≤ k) (h4 : k < 4) : PyData.strOk (Txt.item (Str.ofString "wxyz") k) = true := by
  have h : ∀ j : Fin 4, PyData.strOk (Txt.item (Str.ofString "wxyz") (j.val : Int)) = true := by decide +kernel
  obtain ⟨j, rfl⟩ := Int.eq_ofNat_of_zero_le h0
  exact h ⟨j, by omega⟩
theorem lo_ins {w : World} {A : Around} {E : Value → Shared → Prop} {s : Shared} {Q : Value → Shared → Prop} {h₀ : Heap} {L R : Addr} {m : Str → Option Value} {news news' : List (Addr × Obj)} {v : Value} {vs : List Value} {rk : Nat} {u : Tok} (F : Fr h₀ L s.heap m) (N : News h₀ L s.heap news)
  (U : Upd R (listOf vs.toArray rk) (listOf (v :: vs).toArray (rk + 1)) news news') (hz : vs.length ≤ 100000) (h : ∀ h', Fr h₀ L h' m → News h₀ L h' news' → Q .none { s with heap := h' }) : wpAny (model prog w) A (call (.builtin "list.insert") [.ref R, .int 0 u, v]) Q E s :=
  kl_insert (its := vs.toArray) (l := v :: vs) F N rfl (by simp [kl_ins]) U (by rw [PySem.sizeLine_eq]; simpa using Nat.le_trans hz (by decide)) h
theorem sub_pop {g h : Heap} {L : Addr} {A S l R tups : List (Addr × Obj)} {p s a wl : Addr × Obj} (N : News g L h (A ++ (S ++ (p :: s :: ((a :: wl :: (tups ++ l)) ++ R))))) : News g L h (A ++ (S ++ (p :: s :: (l ++ R)))) := by
  intro q hq
  refine N q ?_
  simp only [List.mem_append, List.mem_cons] at hq ⊢
  rcases hq with h | h | h | h | h | h <;> simp [h]
theorem nd_spop {A S l R tups : List (Addr × Obj)} {p s a wl : Addr × Obj} (h : ND (A ++ (S ++ (p :: s :: ((a :: wl :: (tups ++ l)) ++ R))))) : ND (A ++ (S ++ (p :: s :: (l ++ R)))) := by
  unfold ND at h ⊢
  refine h.sublist (List.Sublist.map _ ?_)
  refine List.Sublist.append_left (List.Sublist.append_left (List.Sublist.cons_cons _ (List.Sublist.cons_cons _ ?_)) _) _
  refine List.Sublist.cons _ (List.Sublist.cons _ ?_)
  exact (List.sublist_append_right tups l).append_right R
theorem eq_six {w : World} {A : Around} {E : Value → Shared → Prop} {s : Shared} {Q : Value → Shared → Prop} {a c : Int} {t u : Tok} {r : Bool} (e : (a == c) = r) (h : Q (.bool r) s) : wpAny (model prog w) A (compareOp .Eq (.int a t) (.int c u)) Q E s := by
  subst e
  exact PyProof.Rows.eq_int h
section
open LCg
variable {w : World} {A : Around} {h₀ : Heap} {L : Addr} {m : Str → Option Value} {env : Env} {elt : Expr} {x : Str} {scope : Scope} {cl : List (Str × Addr)} {s : Shared} {Fin : List Value → List (Addr × Obj) → Prop}
theorem comp_stK {K : List (Addr × Obj) → Prop} {n : Nat} {P0 : Nat → Value → Prop} (led : List (Addr × Obj)) (hK : K led) (P : Nat → List Value → Prop) (hp : P 0 [])
    (turn : ∀ i ys v I oI C oC D m₂ h tk (E' : Value → Shared → Prop), i < n → P i ys → P0 i v → NsObj oC m₂ → m₂ x = some v → Fr h₀ L h m → News h₀ L h ((I, oI) :: (C, oC) :: (D, lst ys) :: led) → Off3 I C D led → ((@Ne Nat I C) ∧ (@Ne Nat I D) ∧ (@Ne Nat C D)) →
      wpAny (model prog w) A (eval elt (compEnvC scope cl C env)) (CsEnd (σ := Unit) (fun _ => led) (fun _ ys => P (i + 1) ys) h₀ L m { s with heap := h, toks := tk } [(I, oI), (C, oC), (D, lst ys)] ys) E' { s with heap := h, toks := tk })
    (fin : ∀ ys, P n ys → Fin ys led) : CompRest prog w A h₀ L m env elt x scope cl s K P0 Fin n 0 [] led := by
  have key : ∀ (j i : Nat) (ys : List Value), i + j = n → P i ys → CompRest prog w A h₀ L m env elt x scope cl s K P0 Fin j i ys led := by
    intro j
    induction j with
    | zero =>
      intro i ys hi hy
      have e : i = n := by omega
      subst e
      exact CompRest.zero (fin ys hy)
    | succ j ih =>
      intro i ys hi hy
      refine CompRest.succ ?_
      intro v I oI C oC D m₂ h tk E' hv hC hx F N off ne
      refine wpAny_mono (turn i ys v I oI C oC D m₂ h tk E' (by omega) hy hv hC hx F N off ne) (fun y s₂ hq => ?_) fun _ _ e => e
      obtain ⟨c', h', tk', e, F', N', hP'⟩ := hq
      exact ⟨h', tk', led, e, F', N', off, hK, ih (i + 1) _ (by omega) hP'⟩
  exact key n 0 [] (by omega) hp
end
theorem stack_mem {vs : List Value} {ss : List Src} {l : List (Addr × Obj)} (h : StackAt vs ss l) (hok : ∀ x ∈ ss, SrcOk x) {v : Value} (hv : v ∈ vs) :
  ∃ (a wl : Addr) (ak wk : Nat) (t1 t2 : Tok) (c : Src) (ws : List Value), v = .ref a ∧ (a, listOf [c.nv, .int c.ln t1, .ref wl, .int c.ld t2].toArray ak) ∈ l ∧ (wl, listOf ws.toArray wk) ∈ l ∧ ws.length ≤ 3 := by
  induction h with
  | nil => cases hv
  | @cons a wl ak wk t1 t2 c ws tups vs ss l q1 _ ih =>
    rcases List.mem_cons.mp hv with rfl | hv
    · have := (hok c (.head _)).n
      exact ⟨a, wl, ak, wk, t1, t2, c, ws, rfl, .head _, .tail _ (.head _), by rw [q1.length]; exact this⟩
    · obtain ⟨a', wl', ak', wk', t1', t2', c', ws', h1, h2, h3, h4⟩ := ih (fun x hx => hok x (.tail _ hx)) hv
      exact ⟨a', wl', ak', wk', t1', t2', c', ws', h1, .tail _ (.tail _ (List.mem_append_right _ h2)), .tail _ (.tail _ (List.mem_append_right _ h3)), h4⟩
def PS (i : Nat) (ys : List Value) : Prop := ∃ ns : List Int, IntsAre ys ns ∧ ns.length = i ∧ ∀ n ∈ ns, 0 ≤ n ∧ n ≤ 3
theorem ps_step {i : Nat} {ys : List Value} {k : Nat} {t : Tok} (h : PS i ys) (hk : k ≤ 3) : PS (i + 1) (ys ++ [.int (k : Int) t]) := by
  obtain ⟨ns, h1, h2, h3⟩ := h
  refine ⟨ns ++ [(k : Int)], h1.append (.cons _ _ .nil), by simp [h2], fun n hn => ?_⟩
  rcases List.mem_append.mp hn with hn | hn
  · exact h3 n hn
  · rw [List.mem_singleton.mp hn]; omega
theorem ps_sum {ns : List Int} (h : ∀ n ∈ ns, 0 ≤ n ∧ n ≤ 3) : 0 ≤ ns.sum ∧ ns.sum ≤ 3 * ns.length := by
  induction ns with
  | nil => simp
  | cons a q ih =>
    have := ih fun x hx => h x (.tail _ hx)
    have := h a (.head _)
    simp only [List.sum_cons, List.length_cons]
    omega
def J7 (P : Params) (T1 : LxT) (b : Bool) (ev endv : Value) (pb lx dx fs sa pa : Addr) (_i : Nat) (m : Str → Option Value) (nx : List (Addr × Obj)) : Prop :=
  ∃ (z : St4) (m' : Str → Option Value), m = kstB m' (ps5 lx sa pa endv z.ov) ∧ nx = led5 P T1 b ev pb lx dx fs sa pa z ∧ LexI P lx pb z.c z.stk z.xs z.ss ∧ LawI z.v z.pvs z.xs z.ss ∧ ND (led5 P T1 b ev pb lx dx fs sa pa z)
theorem j7_mk {g h : Heap} {L : Addr} {m : Str → Option Value} {P : Params} {T1 : LxT} {b : Bool} {ev endv : Value} {pb lx dx fs sa pa : Addr} {i : Nat} (z : St4) (_F : Fr g L h m) (hk : ∀ p ∈ ps5 lx sa pa endv z.ov, m p.1 = some p.2) (h1 : LexI P lx pb z.c z.stk z.xs z.ss) (h2 : LawI z.v z.pvs z.xs z.ss) (h3 : ND (led5 P T1 b ev pb lx dx fs sa pa z)) :
  J7 P T1 b ev endv pb lx dx fs sa pa i m (led5 P T1 b ev pb lx dx fs sa pa z) :=
  ⟨z, m, (funext fun _ => (kstB_eq hk fun _ => rfl).symm), rfl, h1, h2, h3⟩
theorem nd_one_r {l : List (Addr × Obj)} {I : Addr} {oI : Obj} (h : ND l) (hd : ∀ p ∈ l, p.1 ≠ I) : ND (l ++ [(I, oI)]) := by
  unfold ND
  rw [List.map_append, List.nodup_append]
  refine ⟨h, by simp, ?_⟩
  intro a ha b hb
  obtain ⟨x, hx, rfl⟩ := List.mem_map.mp ha
  simp only [List.map_cons, List.map_nil, List.mem_cons, List.not_mem_nil, or_false] at hb
  rw [hb]
  exact hd x hx
theorem nd_off1 {l : List (Addr × Obj)} {I : Addr} {oI : Obj} (h : ND (l ++ [(I, oI)])) : ∀ p ∈ l, p.1 ≠ I := by
  unfold ND at h
  rw [List.map_append, List.nodup_append] at h
  intro p hp
  exact h.2.2 _ (List.mem_map_of_mem (f := (·.1)) hp) I (.head _)
theorem j7_end {g h h2 : Heap} {L I : Addr} {oI : Obj} {s : Shared} {Q : Flow → Shared → Prop} {tk tk2 : Nat} {m2 : Str → Option Value} {P : Params} {T1 : LxT} {b : Bool} {ev endv : Value} {pb lx dx fs sa pa : Addr} {i : Nat} (z : St4)
  (F : Fr g L h2 m2) (N : News g L h2 (led5 P T1 b ev pb lx dx fs sa pa z ++ [(I, oI)])) (hk : ∀ p ∈ ps5 lx sa pa endv z.ov, m2 p.1 = some p.2) (h1 : LexI P lx pb z.c z.stk z.xs z.ss) (h2' : LawI z.v z.pvs z.xs z.ss) (h3 : ND (led5 P T1 b ev pb lx dx fs sa pa z ++ [(I, oI)])) :
  FreeEnd1 g L I oI (J7 P T1 b ev endv pb lx dx fs sa pa (i + 1)) { s with heap := h, toks := tk } Q .next { s with heap := h2, toks := tk2 } :=
  ⟨h2, tk2, m2, led5 P T1 b ev pb lx dx fs sa pa z, rfl, F, N, nd_off1 h3, z, m2, (funext fun _ => (kstB_eq hk fun _ => rfl).symm), rfl, h1, h2', nd_left h3⟩
end Mine

end
section
local macro_rules | `(tactic| k_all) => `(tactic| exact Mine.allLt_ne (by with_reducible assumption))
local macro_rules | `(tactic| walk_at "call type:collections.deque") => `(tactic| (k_here; k_dflt (refine' Mine.dq_new ?k1 ?k2 ?_; (case k1 => k_asm); (case k2 => k_asm); k_whole); intro q' h' F' N' l1; (try k_lt l1); (try k_sweep)))
local macro_rules | `(tactic| walk_at "call ref") => `(tactic| (k_here; (with_reducible show wpAny _ _ (call (Value.ref 587) [Value.str _ _]) _ _ _); k_dflt (refine' Mine.io_make ?k1 ?k2 ?k3 ?k4 ?k5 ?k6 ?k7 ?k8 ?_; (case k1 => k_asm); (case k2 => k_asm); (case k3 => k_asm); (case k4 => k_asm); (case k5 => (first | k_room | k_units)); (case k6 => (first | k_room | k_units)); (case k7 => assumption); (case k8 => k_asm); k_whole); intro io' iod' h' kt' t' k' F' N' l1 l2; (try simp only [AllLt, and_true] at l1); (try k_sweep)))
namespace Mine
section
variable {w : World} {A₀ : Around} {base h₀ : Heap} {outer : List Env} {L : Addr} {m mg mb : Str → Option Value} {loose : List Str} {mean : ExcName → Option Value} {s : Shared} {Q E : Value → Shared → Prop} {p : Program}
  {hdl : Option Value} {d u : Nat} {gs : Option (List Code)} {rest : List (Addr × Obj)} {ns : List (Str × NameKind)} {ig ic : Bool} {mo : List (Str × Const)} {gl bi : Addr} {cs : List (Str × Addr)} {qn : Str} {fo : Option Addr} {cdv : Value}
theorem ctor4 {x : Str} {b : Bool} {tk : Tok} {nv : Value}
  (B : Below A₀ base outer h₀) (F : Fr h₀ L s.heap m) (X : (hd.heap_1 w.params).In h₀) (T : Top p loose mean mg mb h₀) (hdp : d < 900) (hun : u < 9000)
  (hx : x.length ≤ 100000)
  (N : News h₀ L s.heap rest)
  (hQ : ∀ lx dx io iod pb fs h' kt T ev t1 ts tl tt k, Fr h₀ L h' m → EV b ev → @LT.lt Nat _ dx lx → @LT.lt Nat _ lx iod → @LT.lt Nat _ iod io → @LT.lt Nat _ io pb → @LT.lt Nat _ pb fs → AllLt dx rest → AllLt iod rest → AllLt pb rest → AllLt fs rest → 
    News h₀ L h' ((io, instObj 587 iod) :: (iod, ioD w.params kt x 0 t1) :: (pb, dqO [] 0) :: (lx, instObj 722 dx) ::
      (dx, lexD w.params T b false ev (Str.ofString "#") (WC b) pb fs io nv (.str (Str.ofString " ") ts) 1 tl (Str.ofString "") tt) :: (fs, dqO [] 0) :: rest) → Q (.ref lx) { s with heap := h', toks := k })
  : wpAny (model prog w) (ar hdl d (fenv ns ig ic mo gl cs qn fo cdv bi L :: outer) gs u) (call (.ref 722) [.str x tk, nv, .bool b]) Q E s := by
  k_steps
  all_goals (
    rename News h₀ L _ _ => kN2
    rename Fr h₀ L _ m => kF2
    rename ∀ p, p ∈ rest → _ => hl0
    replace hl0 := allLt_of hl0
    rename _ ∧ _ ∧ _ ∧ _ ∧ _ ∧ AllLt _ rest => hl1
    rename _ ∧ _ ∧ _ ∧ _ ∧ AllLt _ rest => hl2
    rename _ ∧ _ ∧ AllLt _ rest => hl3)
  · rename b = true => hb
    subst hb
    refine hQ _ _ _ _ _ _ _ _ ⟨_, _, _, _, _, _, _, _, _, _, _, _, _, _, _, _, _, _, _, _, _, _, _, _, _, _, _⟩ _ _ _ _ _ _ kF2 ?e1 ?e2 ?e3 ?e4 ?e5 ?e6 ?e7 ?e8 ?e9 ?e10 (ctor_ord kN2)
    case e1 => exact rfl
    all_goals first | assumption | exact hl1.1 | exact hl1.2.1 | exact hl2.1 | exact hl3.1 | exact hl3.2.2 | exact hl2.2.2.2.2 | exact hl1.2.2.2.2.2 
  · first | (rename b = false => hb; subst hb) | (rename ¬ b = true => hb; rw [Bool.not_eq_true] at hb; subst hb) | (rename ¬ (b = true) => hb; trace_state)
    refine hQ _ _ _ _ _ _ _ _ ⟨_, _, _, _, _, _, _, _, _, _, _, _, _, _, _, _, _, _, _, _, _, _, _, _, _, _, _⟩ _ _ _ _ _ _ kF2 ?g1 ?g2 ?g3 ?g4 ?g5 ?g6 ?g7 ?g8 ?g9 ?g10 (ctor_ord kN2)
    case g1 => exact ⟨_, rfl⟩
    all_goals first | assumption | exact hl1.1 | exact hl1.2.1 | exact hl2.1 | exact hl3.1 | exact hl3.2.2 | exact hl2.2.2.2.2 | exact hl1.2.2.2.2.2 
end
end Mine

end
local macro_rules | `(tactic| walk_at "execs nil") => `(tactic| (with_reducible refine wpAny_execs_nil ?_))
local macro_rules | `(tactic| walk_at "exec If") => `(tactic| ((try k_fold); with_reducible refine wpAny_If ?_))
local macro_rules | `(tactic| walk_at "ite") => `(tactic| first | with_reducible refine Mine.ite_t ?_ | with_reducible refine Mine.ite_f ?_)
local macro_rules | `(tactic| walk_at "execs cons") => `(tactic| ((try dsimp only); with_reducible refine wpAny_execs_cons ?_))
local macro_rules | `(tactic| walk_at "exec For Name Call cons nil") => `(tactic| (k_here; (rename Fr _ _ _ _ => lF'); (with_reducible refine For_invVF lF' ?k1 ?k2 ?_ ?k3 ?k4); (case k1 => exact rfl); (case k2 => exact rfl); (case k3 => exact fun _ => rfl); (case k4 => passes_own); k_whole))
local macro_rules | `(tactic| walk_at "exec For Name Name cons nil") => `(tactic| (k_here; (rename Fr _ _ _ _ => lF'); (with_reducible refine For_invVF lF' ?k1 ?k2 ?_ ?k3 ?k4); (case k1 => exact rfl); (case k2 => exact rfl); (case k3 => exact fun _ => rfl); (case k4 => passes_own); k_whole))
local macro_rules | `(tactic| walk_at "callWith ref") => `(tactic| (k_here; first
  | ((with_reducible show wpAny _ _ (callWith _ _ _ (backTo _ (starEach [] _)) []) _ _ _); row_timed "R1c" (refine' callWith_K0 ?k1 ?k2 ?_); row_timed "R1k1" (case k1 => exact Frag.In.keeps (by with_reducible assumption) (Fr.keep (by assumption))); row_timed "R1k2" (case k2 => k_is); k_whole; (try dsimp only [List.nil_append, List.cons_append, List.append_nil]))
  | (row_timed "R2c" (refine' callWith_K ?k1 ?k2 ?_); row_timed "R2k1" (case k1 => k_asm); row_timed "R2k2" (case k2 => k_is); k_whole)))
namespace Mine
theorem free {goal_ : Prop} (a b c d e f g h i j k l m n o q r s t u v w x y z A B C D E F G H I J K L M N O P Q R S T U V W X Y Z e1 e2 e3 e4 e5 e6 e7 e8 e9 e10 k1 k2 k3 k4 k5 k6 k7 k8 k9 k10 k11 k12 k13 k14 k15 h1 h2 h3 h4 h5 h6 hr hp hi hv hz sz sub hQ hE hP hC hx ka kb : True) (rest_ : goal_) : goal_ := rest_
end Mine
theorem Mine.law_all.tw1861297953188256277 : True := trivial
theorem Mine.law_all.tw808926787595212315 : True := trivial
theorem Mine.law_all.tw14548401533875796570 : True := trivial
theorem Mine.law_all.tw2103784332974290115 : True := trivial
theorem Mine.law_all.tw11645036861229193933 : True := trivial
theorem Mine.law_all.tw12384212371979683370 : True := trivial
theorem Mine.law_all.tw12272814491482326452 : True := trivial
theorem Mine.law_all.tw9326504959393919199 : True := trivial
theorem Mine.law_all.tw6478741611622195713 : True := trivial
theorem Mine.law_all.tw17264329242000108839 : True := trivial
theorem Mine.law_all.tw17240311926567722313 : True := trivial
theorem Mine.law_all.tw15888606964102597316 : True := trivial
theorem Mine.law_all.tw5214331894307755913 : True := trivial
theorem Mine.law_all.tw6355135678535457092 : True := trivial
theorem Mine.law_all.tw12018720973117135595 : True := trivial
theorem Mine.law_all.tw4354770290612424148 : True := trivial
theorem Mine.law_all.tw6541656116107318362 : True := trivial
theorem Mine.law_all.tw13833317127055801060 : True := trivial
theorem Mine.law_all.tw9135970852051700672 : True := trivial
theorem Mine.law_all.tw2539981353633615827 : True := trivial
theorem Mine.law_all.tw7271922334478322552 : True := trivial
theorem Mine.law_all.tw1605926451748883982 : True := trivial
theorem Mine.law_all.tw7406990479455149028 : True := trivial
theorem Mine.law_all.tw12729013581757030507 : True := trivial
theorem Mine.law_all.tw11604076886869528917 : True := trivial
theorem Mine.law_all.tw17711649757482097080 : True := trivial
theorem Mine.law_all.tw3983192056104361193 : True := trivial
theorem Mine.law_all.tw13253971527945154862 : True := trivial
theorem Mine.law_all.tw9642360315720231220 : True := trivial
theorem Mine.law_all.tw13274840464982359763 : True := trivial
theorem Mine.law_all.tw15327138436386969399 : True := trivial
theorem Mine.law_all.tw15807664475251556305 : True := trivial
theorem Mine.law_all.tw14024095959683317476 : True := trivial
theorem Mine.law_all.tw12829037096407747505 : True := trivial
theorem Mine.law_all.tw7318158564511299729 : True := trivial
theorem Mine.law_all.tw4481082551865045004 : True := trivial
theorem Mine.law_all.tw17074971947010181610 : True := trivial
theorem Mine.law_all.tw10623982647197800651 : True := trivial
theorem Mine.law_all.tw10253732280001569212 : True := trivial
theorem Mine.law_all.tw15515702583689602614 : True := trivial
theorem Mine.law_all.tw16348121039232670680 : True := trivial
theorem Mine.law_all.tw12308792829718365582 : True := trivial
theorem Mine.law_all.tw1938755509981744232 : True := trivial
theorem Mine.law_all.tw14640322939972922974 : True := trivial
theorem Mine.law_all.tw8847300426190641854 : True := trivial
theorem Mine.law_all.tw15414137240233699022 : True := trivial
theorem Mine.law_all.tw15638214500589831823 : True := trivial
theorem Mine.law_all.tw16651006203443513197 : True := trivial
theorem Mine.law_all.tw6814774676840398217 : True := trivial
theorem Mine.law_all.tw10090999975856555344 : True := trivial
theorem Mine.law_all.tw8292125754366032315 : True := trivial
theorem Mine.law_all.tw5774103589672948085 : True := trivial
theorem Mine.law_all.tw14955915058466119356 : True := trivial
theorem Mine.law_all.tw2271960705470518616 : True := trivial
theorem Mine.law_all.tw978204252779252794 : True := trivial
theorem Mine.law_all.tw2126261026752179203 : True := trivial
theorem Mine.law_all.tw550076807988554015 : True := trivial
theorem Mine.law_all.tw87554848720477697 : True := trivial
theorem Mine.law_all.tw18228451960930216718 : True := trivial
theorem Mine.law_all.tw116477658778600319 : True := trivial
theorem Mine.law_all.tw1672642222964062884 : True := trivial
theorem Mine.law_all.tw15640896081885072018 : True := trivial
theorem Mine.law_all.tw10340441938079615943 : True := trivial
theorem Mine.law_all.tw9441140268209864922 : True := trivial
theorem Mine.law_all.tw8652508824891024273 : True := trivial
theorem Mine.law_all.tw16654605471950451980 : True := trivial
theorem Mine.law_all.tw11020806828292283134 : True := trivial
theorem Mine.law_all.tw4261436866732715612 : True := trivial
theorem Mine.law_all.tw8585119295471724657 : True := trivial
theorem Mine.law_all.tw8426454859378444244 : True := trivial
theorem Mine.law_all.tw8729561690571945798 : True := trivial
theorem Mine.law_all.tw14703302427499458811 : True := trivial
theorem Mine.law_all.tw6325109397354473172 : True := trivial
theorem Mine.law_all.tw11185291794543270386 : True := trivial
theorem Mine.law_all.tw2714459630560403676 : True := trivial
theorem Mine.law_all.tw6442390396111978729 : True := trivial
theorem Mine.law_all.tw9621619661464635597 : True := trivial
theorem Mine.law_all.tw12168520589393599259 : True := trivial
theorem Mine.law_all.tw742109610064614720 : True := trivial
theorem Mine.law_all.tw14967953119522679212 : True := trivial
theorem Mine.law_all.tw2744981985473423791 : True := trivial
theorem Mine.law_all.tw13048455256248648906 : True := trivial
theorem Mine.law_all.tw12308355309068749982 : True := trivial
theorem Mine.law_all.tw2252203913613538044 : True := trivial
theorem Mine.law_all.tw2534205154373081525 : True := trivial
theorem Mine.law_all.tw4710498895635838384 : True := trivial
theorem Mine.law_all.tw7555395380386181586 : True := trivial
theorem Mine.law_all.tw392157893591706145 : True := trivial
theorem Mine.law_all.tw18260159938748754179 : True := trivial
theorem Mine.law_all.tw2454280419872470169 : True := trivial
theorem Mine.law_all.tw12078470571680310831 : True := trivial
theorem Mine.law_all.tw1270322770108976961 : True := trivial
theorem Mine.law_all.tw9144500139776326259 : True := trivial
theorem Mine.law_all.tw144113969167408035 : True := trivial
theorem Mine.law_all.tw12821476480046859578 : True := trivial
theorem Mine.law_all.tw8102590376130340518 : True := trivial
theorem Mine.law_all.tw13444409871249696073 : True := trivial
theorem Mine.law_all.tw2455935472648855358 : True := trivial
theorem Mine.law_all.tw13985060576507940359 : True := trivial
theorem Mine.law_all.tw7791439051762490624 : True := trivial
theorem Mine.law_all.tw2222952681925917930 : True := trivial
theorem Mine.law_all.tw11208032702916000851 : True := trivial
theorem Mine.law_all.tw13809103348235374114 : True := trivial
theorem Mine.law_all.tw1071026390990159442 : True := trivial
theorem Mine.law_all.tw12912951368749151951 : True := trivial
theorem Mine.law_all.tw12338384112835736923 : True := trivial
theorem Mine.law_all.tw16317050728709778059 : True := trivial
theorem Mine.law_all.tw49386822889696764 : True := trivial
theorem Mine.law_all.tw7913414452795691321 : True := trivial
theorem Mine.law_all.tw4182408002180818360 : True := trivial
theorem Mine.law_all.tw404534946110283943 : True := trivial
theorem Mine.law_all.tw11254592457914836137 : True := trivial
theorem Mine.law_all.tw11169120883424520007 : True := trivial
theorem Mine.law_all.tw16731210891918897592 : True := trivial
theorem Mine.law_all.tw14022319627245857414 : True := trivial
theorem Mine.law_all.tw11061263923128422616 : True := trivial
theorem Mine.law_all.tw14225962978905420208 : True := trivial
theorem Mine.law_all.tw3296963836593520940 : True := trivial
theorem Mine.law_all.tw10332199025257759670 : True := trivial
theorem Mine.law_all.tw10842723371336156597 : True := trivial
theorem Mine.law_all.tw13801121007944782333 : True := trivial
theorem Mine.law_all.tw12281828514994423027 : True := trivial
theorem Mine.law_all.tw1766896147755282778 : True := trivial
theorem Mine.law_all.tw569701484050765398 : True := trivial
theorem Mine.law_all.tw5355107437934412706 : True := trivial
theorem Mine.law_all.tw232006020691507172 : True := trivial
theorem Mine.law_all.tw7881162431508693036 : True := trivial
theorem Mine.law_all.tw16844301800673861149 : True := trivial
theorem Mine.law_all.tw11977895914950762854 : True := trivial
theorem Mine.law_all.tw17162081525036864674 : True := trivial
theorem Mine.law_all.tw5881413082840422312 : True := trivial
theorem Mine.law_all.tw17613353281601113540 : True := trivial
theorem Mine.law_all.tw8100261704194928128 : True := trivial
theorem Mine.law_all.tw12332833768631797781 : True := trivial
theorem Mine.law_all.tw4221142147964649119 : True := trivial
theorem Mine.law_all.tw3903515962272563663 : True := trivial
theorem Mine.law_all.tw15111771918000721386 : True := trivial
theorem Mine.law_all.tw5465242347971369183 : True := trivial
theorem Mine.law_all.tw5099097261256123588 : True := trivial
theorem Mine.law_all.tw121348372011856147 : True := trivial
theorem Mine.law_all.tw1376570501437681816 : True := trivial
theorem Mine.law_all.tw7574916185476446870 : True := trivial
theorem Mine.law_all.tw6422183658796698897 : True := trivial
theorem Mine.law_all.tw10517906790627618544 : True := trivial
theorem Mine.law_all.tw14264949915988352486 : True := trivial
theorem Mine.law_all.tw9065303865073120601 : True := trivial
theorem Mine.law_all.tw4638716497167235156 : True := trivial
theorem Mine.law_all.tw2560851641824476598 : True := trivial
theorem Mine.law_all.tw9906353361400467681 : True := trivial
theorem Mine.law_all.tw1126804568260048138 : True := trivial
theorem Mine.law_all.tw5123302808915844946 : True := trivial
theorem Mine.law_all.tw15102585243479572927 : True := trivial
theorem Mine.law_all.tw1819660966834464121 : True := trivial
theorem Mine.law_all.tw13760851721862378156 : True := trivial
theorem Mine.law_all.tw5810238935025566227 : True := trivial
theorem Mine.law_all.tw2289857599661718217 : True := trivial
theorem Mine.law_all.tw6550320685308687620 : True := trivial
theorem Mine.law_all.tw12613626564643572922 : True := trivial
theorem Mine.law_all.tw1213014688269875124 : True := trivial
theorem Mine.law_all.tw9310598725500422130 : True := trivial
theorem Mine.law_all.tw14222145142556662505 : True := trivial
theorem Mine.law_all.tw6974504298890653878 : True := trivial
theorem Mine.law_all.tw1592464377872422232 : True := trivial
theorem Mine.law_all.tw1618355861504449712 : True := trivial
theorem Mine.law_all.tw3826946535189723318 : True := trivial
theorem Mine.law_all.tw15994752243992478524 : True := trivial
theorem Mine.law_all.tw7570389025846386837 : True := trivial
theorem Mine.law_all.tw17135547795266049317 : True := trivial
theorem Mine.law_all.tw11509529326707108785 : True := trivial
theorem Mine.law_all.tw17936130361250110869 : True := trivial
theorem Mine.law_all.tw401616629055616331 : True := trivial
theorem Mine.law_all.tw3813577191599259775 : True := trivial
theorem Mine.law_all.tw2032630373190490227 : True := trivial
theorem Mine.law_all.tw17550541601872772917 : True := trivial
theorem Mine.law_all.tw10754805694788938509 : True := trivial
theorem Mine.law_all.tw941666048300869634 : True := trivial
theorem Mine.law_all.tw2546207491649054136 : True := trivial
theorem Mine.law_all.tw2924670171094740670 : True := trivial
theorem Mine.law_all.tw5542367601281971411 : True := trivial
theorem Mine.law_all.tw7780568949283567224 : True := trivial
theorem Mine.law_all.tw541292884143145059 : True := trivial
theorem Mine.law_all.tw2406078263742745528 : True := trivial
theorem Mine.law_all.tw2795527421740472226 : True := trivial
theorem Mine.law_all.tw15844257298622311405 : True := trivial
theorem Mine.law_all.tw17749092094045793073 : True := trivial
theorem Mine.law_all.tw15586044915557591662 : True := trivial
theorem Mine.law_all.tw10082115955702963577 : True := trivial
theorem Mine.law_all.tw15387212284789558141 : True := trivial
theorem Mine.law_all.tw11516134287502957769 : True := trivial
theorem Mine.law_all.tw9504067815950663498 : True := trivial
theorem Mine.law_all.tw3012268511640468390 : True := trivial
theorem Mine.law_all.tw8814184745475322185 : True := trivial
theorem Mine.law_all.tw12878576852180475762 : True := trivial
theorem Mine.law_all.tw9421408513443329588 : True := trivial
theorem Mine.law_all.tw17248258474559860081 : True := trivial
theorem Mine.law_all.tw4073406199993252850 : True := trivial
theorem Mine.law_all.tw4322978343721434318 : True := trivial
theorem Mine.law_all.tw17333561848662834254 : True := trivial
theorem Mine.law_all.tw5133684288058214382 : True := trivial
theorem Mine.law_all.tw10041133594965264650 : True := trivial
theorem Mine.law_all.tw15917809590553049049 : True := trivial
theorem Mine.law_all.tw1244168298268136379 : True := trivial
theorem Mine.law_all.tw2234524100257708063 : True := trivial
theorem Mine.law_all.tw6738363049555094938 : True := trivial
theorem Mine.law_all.tw16258484221863406547 : True := trivial
theorem Mine.law_all.tw298556003828902562 : True := trivial
theorem Mine.law_all.tw1536466687738809822 : True := trivial
theorem Mine.law_all.tw3116810793124868424 : True := trivial
theorem Mine.law_all.tw8864850031346182118 : True := trivial
theorem Mine.law_all.tw17962646048161934237 : True := trivial
theorem Mine.law_all.tw16903987867393959857 : True := trivial
theorem Mine.law_all.tw1988555749612562791 : True := trivial
theorem Mine.law_all.tw8631452304911163145 : True := trivial
theorem Mine.law_all.tw8192627400900402444 : True := trivial
theorem Mine.law_all.tw6394399434190074597 : True := trivial
theorem Mine.law_all.tw8665318985690784266 : True := trivial
theorem Mine.law_all.tw14692936392394494320 : True := trivial
theorem Mine.law_all.tw15041844750066439977 : True := trivial
theorem Mine.law_all.tw5606647511850069095 : True := trivial
theorem Mine.law_all.tw505844514383608538 : True := trivial
theorem Mine.law_all.tw1745867294719425553 : True := trivial
theorem Mine.law_all.tw15026446780328764363 : True := trivial
theorem Mine.law_all.tw13008198028515782221 : True := trivial
theorem Mine.law_all.tw13023151741414912232 : True := trivial
theorem Mine.law_all.tw14766775574214876319 : True := trivial
theorem Mine.law_all.tw9519570101095330979 : True := trivial
theorem Mine.law_all.tw8182643449472363497 : True := trivial
theorem Mine.law_all.tw2899457639284417968 : True := trivial
theorem Mine.law_all.tw9126654936404069527 : True := trivial
theorem Mine.law_all.tw308099982120028020 : True := trivial
theorem Mine.law_all.tw254210294449290986 : True := trivial
theorem Mine.law_all.tw753871570185349790 : True := trivial
theorem Mine.law_all.tw16819984471793681257 : True := trivial
theorem Mine.law_all.tw88744338008619462 : True := trivial
theorem Mine.law_all.tw16108003277724382137 : True := trivial
theorem Mine.law_all.tw2921730017392566355 : True := trivial
theorem Mine.law_all.tw10297145265793509435 : True := trivial
theorem Mine.law_all.tw14285781888347874446 : True := trivial
theorem Mine.law_all.tw1115970785884932992 : True := trivial
theorem Mine.law_all.tw7506031421445054254 : True := trivial
theorem Mine.law_all.tw185478952616494882 : True := trivial
theorem Mine.law_all.tw7517537711377488852 : True := trivial
theorem Mine.law_all.tw4493041973297072924 : True := trivial
theorem Mine.law_all.tw16378840673372724951 : True := trivial
theorem Mine.law_all.tw2662628459423469990 : True := trivial
theorem Mine.law_all.tw9005674034113058390 : True := trivial
theorem Mine.law_all.tw5126693611934764887 : True := trivial
theorem Mine.law_all.tw1908834790331025158 : True := trivial
theorem Mine.law_all.tw3275827474247852994 : True := trivial
theorem Mine.law_all.tw14512922981909422826 : True := trivial
theorem Mine.law_all.tw5105902913525381356 : True := trivial
theorem Mine.law_all.tw8373480759210339737 : True := trivial
theorem Mine.law_all.tw14929244992755822200 : True := trivial
theorem Mine.law_all.tw42735402098718572 : True := trivial
theorem Mine.law_all.tw50990029914848857 : True := trivial
theorem Mine.law_all.tw1134505771618074870 : True := trivial
theorem Mine.law_all.tw8408013158107128451 : True := trivial
theorem Mine.law_all.tw14690459059760270787 : True := trivial
theorem Mine.law_all.tw14599607153788883995 : True := trivial
theorem Mine.law_all.tw6471123649784635168 : True := trivial
theorem Mine.law_all.tw7089003446540823613 : True := trivial
theorem Mine.law_all.tw16280616582512762277 : True := trivial
theorem Mine.law_all.tw17025013958437641781 : True := trivial
theorem Mine.law_all.tw11072852086419898238 : True := trivial
theorem Mine.law_all.tw10589317585424288234 : True := trivial
theorem Mine.law_all.tw699081443379234643 : True := trivial
theorem Mine.law_all.tw13846950719819077829 : True := trivial
theorem Mine.law_all.tw6667596460715735799 : True := trivial
theorem Mine.law_all.tw17699220586243776058 : True := trivial
theorem Mine.law_all.tw3178316337248908353 : True := trivial
theorem Mine.law_all.tw5429858767254799258 : True := trivial
theorem Mine.law_all.tw7424173207631694637 : True := trivial
theorem Mine.law_all.tw17535888986555872392 : True := trivial
theorem Mine.law_all.tw18425384942027050804 : True := trivial
theorem Mine.law_all.tw12466342130767247577 : True := trivial
theorem Mine.law_all.tw4767241430983704032 : True := trivial
theorem Mine.law_all.tw9626924371936766941 : True := trivial
theorem Mine.law_all.tw17193921254550333962 : True := trivial
theorem Mine.law_all.tw17008558775933394028 : True := trivial
theorem Mine.law_all.tw1347740606709914761 : True := trivial
theorem Mine.law_all.tw13838683757722122955 : True := trivial
theorem Mine.law_all.tw15061830248806686431 : True := trivial
theorem Mine.law_all.tw5769454105433524467 : True := trivial
theorem Mine.law_all.tw4813512349449720863 : True := trivial
theorem Mine.law_all.tw6529279197570483795 : True := trivial
theorem Mine.law_all.tw9225959068197669698 : True := trivial
theorem Mine.law_all.tw9706086234395682267 : True := trivial
theorem Mine.law_all.tw10808177503072308079 : True := trivial
theorem Mine.law_all.tw9015332790510971594 : True := trivial
theorem Mine.law_all.tw4799799285233713263 : True := trivial
theorem Mine.law_all.tw4513022563276176288 : True := trivial
theorem Mine.law_all.tw12056103759676145562 : True := trivial
theorem Mine.law_all.tw11331813773473021967 : True := trivial
theorem Mine.law_all.tw1458131495679319933 : True := trivial
theorem Mine.law_all.tw11755048821886595345 : True := trivial
theorem Mine.law_all.tw10632998686855480601 : True := trivial
theorem Mine.law_all.tw13140779808272988157 : True := trivial
theorem Mine.law_all.tw5483578599265696199 : True := trivial
theorem Mine.law_all.tw15222793665863523046 : True := trivial
theorem Mine.law_all.tw5467091673537627360 : True := trivial
theorem Mine.law_all.tw16011759601916289475 : True := trivial
theorem Mine.law_all.tw18084503921448002766 : True := trivial
theorem Mine.law_all.tw1125080383469598763 : True := trivial
theorem Mine.law_all.tw6628267780710048319 : True := trivial
theorem Mine.law_all.tw7343335850631077457 : True := trivial
theorem Mine.law_all.tw10250544082008050651 : True := trivial
theorem Mine.law_all.tw623384496221371744 : True := trivial
theorem Mine.law_all.tw11276032279946435343 : True := trivial
theorem Mine.law_all.tw17139090271463625037 : True := trivial
theorem Mine.law_all.tw15404506543987917969 : True := trivial
theorem Mine.law_all.tw7219402698325937587 : True := trivial
theorem Mine.law_all.tw17628540532235563227 : True := trivial
theorem Mine.law_all.tw13528875618702146035 : True := trivial
theorem Mine.law_all.tw12509682125398910234 : True := trivial
theorem Mine.law_all.tw10427663710399940043 : True := trivial
theorem Mine.law_all.tw868222490149932729 : True := trivial
theorem Mine.law_all.tw7250216617388656809 : True := trivial
theorem Mine.law_all.tw3813564530132189172 : True := trivial
theorem Mine.law_all.tw4299841220277086336 : True := trivial
theorem Mine.law_all.tw7601383465899748548 : True := trivial
theorem Mine.law_all.tw3278616100580146713 : True := trivial
theorem Mine.law_all.tw14165149365823648315 : True := trivial
theorem Mine.law_all.tw10620959191045113335 : True := trivial
theorem Mine.law_all.tw10277864918451100114 : True := trivial
theorem Mine.law_all.tw12692521775855915814 : True := trivial
theorem Mine.law_all.tw12588457292089711807 : True := trivial
theorem Mine.law_all.tw5077807667812295140 : True := trivial
theorem Mine.law_all.tw3663503265976199116 : True := trivial
theorem Mine.law_all.tw2924756278709178009 : True := trivial
theorem Mine.law_all.tw5881403375008658740 : True := trivial
theorem Mine.law_all.tw15427931746332374070 : True := trivial
theorem Mine.law_all.tw17783994495123558372 : True := trivial
theorem Mine.law_all.tw3936332338030081361 : True := trivial
theorem Mine.law_all.tw1564792174963846901 : True := trivial
theorem Mine.law_all.tw11570621344050687362 : True := trivial
theorem Mine.law_all.tw5925129876391146066 : True := trivial
theorem Mine.law_all.tw7497220510776412333 : True := trivial
theorem Mine.law_all.tw4118192364197012240 : True := trivial
theorem Mine.law_all.tw7893887008874934858 : True := trivial
theorem Mine.law_all.tw147287198433707135 : True := trivial
theorem Mine.law_all.tw7664980124186717229 : True := trivial
theorem Mine.law_all.tw2906490581532596320 : True := trivial
theorem Mine.law_all.tw3416886346130291467 : True := trivial
theorem Mine.law_all.tw4520348996882111033 : True := trivial
theorem Mine.law_all.tw8351115422591919128 : True := trivial
theorem Mine.law_all.tw17657424406159520245 : True := trivial
theorem Mine.law_all.tw7697204384454675280 : True := trivial
theorem Mine.law_all.tw16724615851476500005 : True := trivial
theorem Mine.law_all.tw8406315387685492880 : True := trivial
theorem Mine.law_all.tw9496831969247301946 : True := trivial
theorem Mine.law_all.tw12104823046187114806 : True := trivial
theorem Mine.law_all.tw5719042974799534917 : True := trivial
theorem Mine.law_all.tw6645749129768185620 : True := trivial
theorem Mine.law_all.tw9447880567076979900 : True := trivial
theorem Mine.law_all.tw5923626274025043023 : True := trivial
theorem Mine.law_all.tw5332743953270975010 : True := trivial
theorem Mine.law_all.tw7902074397041296349 : True := trivial
theorem Mine.law_all.tw16554060013575348944 : True := trivial
theorem Mine.law_all.tw8552878003761168958 : True := trivial
theorem Mine.law_all.tw1343695993253210297 : True := trivial
theorem Mine.law_all.tw9726562403335934281 : True := trivial
theorem Mine.law_all.tw7791761455036148250 : True := trivial
theorem Mine.law_all.tw14745461692227509293 : True := trivial
theorem Mine.law_all.tw6372170185144319752 : True := trivial
theorem Mine.law_all.tw1526100267518658005 : True := trivial
theorem Mine.law_all.tw7028125823600010858 : True := trivial
theorem Mine.law_all.tw3692716606047857953 : True := trivial
theorem Mine.law_all.tw2425498562415444253 : True := trivial
theorem Mine.law_all.tw7647884552941119451 : True := trivial
theorem Mine.law_all.tw15680072974341577534 : True := trivial
theorem Mine.law_all.tw2617532451759129828 : True := trivial
theorem Mine.law_all.tw4767623398743609812 : True := trivial
theorem Mine.law_all.tw14396964315094823396 : True := trivial
theorem Mine.law_all.tw7765527865837770668 : True := trivial
theorem Mine.law_all.tw15955839384417658414 : True := trivial
theorem Mine.law_all.tw1479220743327157826 : True := trivial
theorem Mine.law_all.tw3560663033078476128 : True := trivial
theorem Mine.law_all.tw13312783184378385674 : True := trivial
theorem Mine.law_all.tw13814730616935933626 : True := trivial
theorem Mine.law_all.tw2018976290973465159 : True := trivial
theorem Mine.law_all.tw13050402135260733356 : True := trivial
theorem Mine.law_all.tw4629605032302363013 : True := trivial
theorem Mine.law_all.tw2897607846274201091 : True := trivial
theorem Mine.law_all.tw4116516876634802910 : True := trivial
theorem Mine.law_all.tw13786776866538912107 : True := trivial
theorem Mine.law_all.tw5143838461203301668 : True := trivial
theorem Mine.law_all.tw14484216793023953687 : True := trivial
theorem Mine.law_all.tw15816446151563789378 : True := trivial
theorem Mine.law_all.tw14381365239966274286 : True := trivial
theorem Mine.law_all.tw15991014356718627131 : True := trivial
theorem Mine.law_all.tw11378994670534948722 : True := trivial
theorem Mine.law_all.tw16903961797545972891 : True := trivial
theorem Mine.law_all.tw15693939393655280204 : True := trivial
theorem Mine.law_all.tw15978949696629488146 : True := trivial
theorem Mine.law_all.tw2310117848358827485 : True := trivial
theorem Mine.law_all.tw11945523544114663292 : True := trivial
theorem Mine.law_all.tw14783403437535847111 : True := trivial
theorem Mine.law_all.tw11195006048519719982 : True := trivial
theorem Mine.law_all.tw5306588570621787507 : True := trivial
theorem Mine.law_all.tw7897600568026276390 : True := trivial
theorem Mine.law_all.tw6829346939798277260 : True := trivial
theorem Mine.law_all.tw8378616637936851624 : True := trivial
theorem Mine.law_all.tw1264670296981799925 : True := trivial
theorem Mine.law_all.tw8921295990715661176 : True := trivial
theorem Mine.law_all.tw1909231634321623422 : True := trivial
theorem Mine.law_all.tw4755258198134130943 : True := trivial
theorem Mine.law_all.tw8515956640902208893 : True := trivial
theorem Mine.law_all.tw4875587917594351017 : True := trivial
theorem Mine.law_all.tw11655911931479345256 : True := trivial
theorem Mine.law_all.tw6513319782983348548 : True := trivial
theorem Mine.law_all.tw4048687063676348890 : True := trivial
theorem Mine.law_all.tw14829923604676511662 : True := trivial
theorem Mine.law_all.tw1899502164790749458 : True := trivial
theorem Mine.law_all.tw12162759631566370067 : True := trivial
theorem Mine.law_all.tw8093475581411736961 : True := trivial
theorem Mine.law_all.tw6514298221923599796 : True := trivial
theorem Mine.law_all.tw11126621595802289062 : True := trivial
theorem Mine.law_all.tw1200807466883419909 : True := trivial
theorem Mine.law_all.tw1702886262042523489 : True := trivial
theorem Mine.law_all.tw14200917436561629008 : True := trivial
theorem Mine.law_all.tw4298414287522497693 : True := trivial
theorem Mine.law_all.tw13284267574609153846 : True := trivial
theorem Mine.law_all.tw16081171039842257919 : True := trivial
theorem Mine.law_all.tw11821130883310013321 : True := trivial
theorem Mine.law_all.tw4468289917989545160 : True := trivial
theorem Mine.law_all.tw4800166454244708440 : True := trivial
theorem Mine.law_all.tw2337115943774737595 : True := trivial
theorem Mine.law_all.tw10425333190776739551 : True := trivial
theorem Mine.law_all.tw8496572883052770167 : True := trivial
theorem Mine.law_all.tw11950564495300238953 : True := trivial
theorem Mine.law_all.tw5947366203799548357 : True := trivial
theorem Mine.law_all.tw4706784108104460177 : True := trivial
theorem Mine.law_all.tw5285307726481897559 : True := trivial
theorem Mine.law_all.tw1733342002462095466 : True := trivial
theorem Mine.law_all.tw3243097391343231957 : True := trivial
theorem Mine.law_all.tw6068437695709350847 : True := trivial
theorem Mine.law_all.tw8689406086219333336 : True := trivial
theorem Mine.law_all.tw6038085552947697086 : True := trivial
theorem Mine.law_all.tw15146687380694534961 : True := trivial
theorem Mine.law_all.tw7690104695833144301 : True := trivial
theorem Mine.law_all.tw13323004776771469176 : True := trivial
theorem Mine.law_all.tw10092212651508181671 : True := trivial
theorem Mine.law_all.tw2413856156487422069 : True := trivial
theorem Mine.law_all.tw7320585726020715318 : True := trivial
theorem Mine.law_all.tw9729604732972894722 : True := trivial
theorem Mine.law_all.tw8925359147337055447 : True := trivial
theorem Mine.law_all.tw14573240092562081179 : True := trivial
theorem Mine.law_all.tw6231318655119160662 : True := trivial
theorem Mine.law_all.tw12415205634060267573 : True := trivial
theorem Mine.law_all.tw11344874559957333639 : True := trivial
theorem Mine.law_all.tw9885059535474818502 : True := trivial
theorem Mine.law_all.tw17769878892396552597 : True := trivial
theorem Mine.law_all.tw16132189220444017940 : True := trivial
theorem Mine.law_all.tw9682089725965795925 : True := trivial
theorem Mine.law_all.tw15516733807979383809 : True := trivial
theorem Mine.law_all.tw6592884879708733306 : True := trivial
theorem Mine.law_all.tw9837858002760397563 : True := trivial
theorem Mine.law_all.tw12078552371085240558 : True := trivial
theorem Mine.law_all.tw6775264209203825292 : True := trivial
theorem Mine.law_all.tw2818472761355251851 : True := trivial
theorem Mine.law_all.tw9055577570390366099 : True := trivial
theorem Mine.law_all.tw11161673737740280770 : True := trivial
theorem Mine.law_all.tw10699485395619107383 : True := trivial
theorem Mine.law_all.tw12095277606438711637 : True := trivial
theorem Mine.law_all.tw9193932539253619566 : True := trivial
theorem Mine.law_all.tw13880960847138548369 : True := trivial
theorem Mine.law_all.tw14384918623772240547 : True := trivial
theorem Mine.law_all.tw857312800663944748 : True := trivial
theorem Mine.law_all.tw9929707098585528879 : True := trivial
theorem Mine.law_all.tw17956888979338296214 : True := trivial
theorem Mine.law_all.tw3015541545424464467 : True := trivial
theorem Mine.law_all.tw15053150841094675366 : True := trivial
theorem Mine.law_all.tw8287017651184956003 : True := trivial
theorem Mine.law_all.tw17459176674885784516 : True := trivial
theorem Mine.law_all.tw13061075394575644761 : True := trivial
theorem Mine.law_all.tw6022211634629375331 : True := trivial
theorem Mine.law_all.tw12685006382546950688 : True := trivial
theorem Mine.law_all.tw11237757471492391802 : True := trivial
theorem Mine.law_all.tw1541181133342956825 : True := trivial
theorem Mine.law_all.tw3825936540422273863 : True := trivial
theorem Mine.law_all.tw17167370007966241821 : True := trivial
theorem Mine.law_all.tw12733668576097638289 : True := trivial
theorem Mine.law_all.tw11086646823923730572 : True := trivial
theorem Mine.law_all.tw14817745034569102223 : True := trivial
theorem Mine.law_all.tw6723525195617269812 : True := trivial
theorem Mine.law_all.tw9987792911408698340 : True := trivial
theorem Mine.law_all.tw1619606534716276043 : True := trivial
theorem Mine.law_all.tw13126924672156596446 : True := trivial
theorem Mine.law_all.tw18223944042725728250 : True := trivial
theorem Mine.law_all.tw12733029705023595350 : True := trivial
theorem Mine.law_all.tw10780945830723714241 : True := trivial
theorem Mine.law_all.tw9337859482809679654 : True := trivial
theorem Mine.law_all.tw4289236661132030044 : True := trivial
theorem Mine.law_all.tw13140519786740650072 : True := trivial
theorem Mine.law_all.tw5199301434253951998 : True := trivial
theorem Mine.law_all.tw1682832674239571567 : True := trivial
theorem Mine.law_all.tw14971921406432897392 : True := trivial
theorem Mine.law_all.tw4545471796157021838 : True := trivial
theorem Mine.law_all.tw17671693468899418834 : True := trivial
theorem Mine.law_all.tw2862211712955723747 : True := trivial
theorem Mine.law_all.tw4771868648470891126 : True := trivial
theorem Mine.law_all.tw12443848507722431881 : True := trivial
theorem Mine.law_all.tw1373718396076105583 : True := trivial
theorem Mine.law_all.tw4105255371170773908 : True := trivial
theorem Mine.law_all.tw13698209543225463622 : True := trivial
theorem Mine.law_all.tw7166755544651728111 : True := trivial
theorem Mine.law_all.tw697804852917623427 : True := trivial
theorem Mine.law_all.tw11379858719792009985 : True := trivial
theorem Mine.law_all.tw6649969067901403340 : True := trivial
theorem Mine.law_all.tw450456051597042649 : True := trivial
theorem Mine.law_all.tw11968179528029030403 : True := trivial
theorem Mine.law_all.tw2432424846941410789 : True := trivial
theorem Mine.law_all.tw13977805788617109767 : True := trivial
theorem Mine.law_all.tw5961023722609971472 : True := trivial
theorem Mine.law_all.tw1822193252918744523 : True := trivial
theorem Mine.law_all.tw5386138778478946084 : True := trivial
theorem Mine.law_all.tw11973853004191696713 : True := trivial
theorem Mine.law_all.tw4787805881238422163 : True := trivial
theorem Mine.law_all.tw16364907183938773818 : True := trivial
theorem Mine.law_all.tw1006284481315042348 : True := trivial
theorem Mine.law_all.tw12719020962863150717 : True := trivial
theorem Mine.law_all.tw4316066407692741691 : True := trivial
theorem Mine.law_all.tw7385059913978287034 : True := trivial
theorem Mine.law_all.tw7837713855860009970 : True := trivial
theorem Mine.law_all.tw17606432771363783360 : True := trivial
theorem Mine.law_all.tw18098063318637971162 : True := trivial
theorem Mine.law_all.tw7206139752427571534 : True := trivial
theorem Mine.law_all.tw14404595031650566798 : True := trivial
theorem Mine.law_all.tw1166129813771130549 : True := trivial
theorem Mine.law_all.tw9895718714931393807 : True := trivial
theorem Mine.law_all.tw4054552316874386740 : True := trivial
theorem Mine.law_all.tw3806819470392062991 : True := trivial
theorem Mine.law_all.tw16084122824873582314 : True := trivial
theorem Mine.law_all.tw4310718505664016985 : True := trivial
theorem Mine.law_all.tw18243188635623463072 : True := trivial
theorem Mine.law_all.tw8352638903468824440 : True := trivial
theorem Mine.law_all.tw9098079959301702225 : True := trivial
theorem Mine.law_all.tw6236118766085468272 : True := trivial
theorem Mine.law_all.tw16669387040374730769 : True := trivial
theorem Mine.law_all.tw9350206980387211188 : True := trivial
theorem Mine.law_all.tw2754305514957794308 : True := trivial
theorem Mine.law_all.tw12055539081176029090 : True := trivial
theorem Mine.law_all.tw17894447663895493757 : True := trivial
theorem Mine.law_all.tw11566998951525393313 : True := trivial
theorem Mine.law_all.tw801417409540640141 : True := trivial
theorem Mine.law_all.tw17818739092667572935 : True := trivial
theorem Mine.law_all.tw8068670141169891791 : True := trivial
theorem Mine.law_all.tw14483480384061991028 : True := trivial
theorem Mine.law_all.tw3342747189937667127 : True := trivial
theorem Mine.law_all.tw1646534875598493178 : True := trivial
theorem Mine.law_all.tw6237928856598503754 : True := trivial
theorem Mine.law_all.tw13171468961803394345 : True := trivial
theorem Mine.law_all.tw9715068110327944835 : True := trivial
theorem Mine.law_all.tw14591837725140855343 : True := trivial
theorem Mine.law_all.tw17879881856010532143 : True := trivial
theorem Mine.law_all.tw16101399557488211435 : True := trivial
theorem Mine.law_all.tw14112813277465929817 : True := trivial
theorem Mine.law_all.tw17091725206767289263 : True := trivial
theorem Mine.law_all.tw10152195772459584916 : True := trivial
theorem Mine.law_all.tw11283148420750326516 : True := trivial
theorem Mine.law_all.tw7762748990098453861 : True := trivial
theorem Mine.law_all.tw9484003277438265565 : True := trivial
theorem Mine.law_all.tw15336482529451251379 : True := trivial
theorem Mine.law_all.tw7831887952337321200 : True := trivial
theorem Mine.law_all.tw17423994124011686517 : True := trivial
theorem Mine.law_all.tw18049563021733404900 : True := trivial
theorem Mine.law_all.tw2619257411496593575 : True := trivial
theorem Mine.law_all.tw8559622642134532576 : True := trivial
theorem Mine.law_all.tw10447141982152834051 : True := trivial
theorem Mine.law_all.tw10492806786580578284 : True := trivial
theorem Mine.law_all.tw8587321083128229445 : True := trivial
theorem Mine.law_all.tw14752512131158284028 : True := trivial
theorem Mine.law_all.tw11981917482434212799 : True := trivial
theorem Mine.law_all.tw14011421268284267096 : True := trivial
theorem Mine.law_all.tw5058365699104195747 : True := trivial
theorem Mine.law_all.tw11844059635380801397 : True := trivial
theorem Mine.law_all.tw14058198244844264512 : True := trivial
theorem Mine.law_all.tw18438550808169337630 : True := trivial
theorem Mine.law_all.tw12491990524712166927 : True := trivial
theorem Mine.law_all.tw644590359430075232 : True := trivial
theorem Mine.law_all.tw4663659113027530946 : True := trivial
theorem Mine.law_all.tw9101883533985367949 : True := trivial
theorem Mine.law_all.tw8990330740181145737 : True := trivial
theorem Mine.law_all.tw14976291558557332888 : True := trivial
theorem Mine.law_all.tw6064550380648306667 : True := trivial
theorem Mine.law_all.tw17073913150402608559 : True := trivial
theorem Mine.law_all.tw1536540366311737286 : True := trivial
theorem Mine.law_all.tw8175941863582059467 : True := trivial
theorem Mine.law_all.tw324088458086427686 : True := trivial
theorem Mine.law_all.tw10075033275381536440 : True := trivial
theorem Mine.law_all.tw10548317783181927485 : True := trivial
theorem Mine.law_all.tw10474069288783402820 : True := trivial
theorem Mine.law_all.tw2586092790497031182 : True := trivial
theorem Mine.law_all.tw7379131392961922385 : True := trivial
theorem Mine.law_all.tw10344729229328920165 : True := trivial
theorem Mine.law_all.tw14578468027487938174 : True := trivial
theorem Mine.law_all.tw13662883176790347504 : True := trivial
theorem Mine.law_all.tw390498358708893106 : True := trivial
theorem Mine.law_all.tw15362320644881486680 : True := trivial
theorem Mine.law_all.tw18074040619987095483 : True := trivial
theorem Mine.law_all.tw17313086474550658941 : True := trivial
theorem Mine.law_all.tw18031673381082608066 : True := trivial
theorem Mine.law_all.tw3426539022656043222 : True := trivial
theorem Mine.law_all.tw10437830444076844960 : True := trivial
theorem Mine.law_all.tw14086168745368120678 : True := trivial
theorem Mine.law_all.tw5196125583654719661 : True := trivial
theorem Mine.law_all.tw14991419344657449139 : True := trivial
theorem Mine.law_all.tw2791512771193701167 : True := trivial
theorem Mine.law_all.tw18272266722473543086 : True := trivial
theorem Mine.law_all.tw10132980813947130738 : True := trivial
theorem Mine.law_all.tw15186910425931473683 : True := trivial
theorem Mine.law_all.tw9281404008301498739 : True := trivial
theorem Mine.law_all.tw6311965134907485826 : True := trivial
theorem Mine.law_all.tw5914833246583547866 : True := trivial
theorem Mine.law_all.tw1748755634552202416 : True := trivial
theorem Mine.law_all.tw3728958221131766131 : True := trivial
theorem Mine.law_all.tw7382394883274062982 : True := trivial
theorem Mine.law_all.tw5341963815596595863 : True := trivial
theorem Mine.law_all.tw4783601065168354762 : True := trivial
theorem Mine.law_all.tw11986533732874898875 : True := trivial
theorem Mine.law_all.tw3933338468746785916 : True := trivial
theorem Mine.law_all.tw11739812003963863410 : True := trivial
theorem Mine.law_all.tw9758465039191818689 : True := trivial
theorem Mine.law_all.tw18235319390762920864 : True := trivial
theorem Mine.law_all.tw13699687274142533169 : True := trivial
theorem Mine.law_all.tw11887072702994114029 : True := trivial
theorem Mine.law_all.tw5368372463894450783 : True := trivial
theorem Mine.law_all.tw18236519589282089527 : True := trivial
theorem Mine.law_all.tw4665142225715192508 : True := trivial
theorem Mine.law_all.tw12012145143388645040 : True := trivial
theorem Mine.law_all.tw3764594079211352018 : True := trivial
theorem Mine.law_all.tw9405689241106513495 : True := trivial
theorem Mine.law_all.tw11615710364362942683 : True := trivial
theorem Mine.law_all.tw1756717570143565084 : True := trivial
theorem Mine.law_all.tw5453859960540951435 : True := trivial
theorem Mine.law_all.tw12644882131140162811 : True := trivial
theorem Mine.law_all.tw14600590696809855391 : True := trivial
theorem Mine.law_all.tw5409939720034131757 : True := trivial
theorem Mine.law_all.tw644193453371022997 : True := trivial
theorem Mine.law_all.tw5391715999942285979 : True := trivial
theorem Mine.law_all.tw10464263001826078911 : True := trivial
theorem Mine.law_all.tw10112902700007934811 : True := trivial
theorem Mine.law_all.tw1851005829296705102 : True := trivial
theorem Mine.law_all.tw12681778448758301329 : True := trivial
theorem Mine.law_all.tw16314742590276871135 : True := trivial
theorem Mine.law_all.tw10969439180591476309 : True := trivial
theorem Mine.law_all.tw16436836394604217106 : True := trivial
theorem Mine.law_all.tw12240263347232697027 : True := trivial
theorem Mine.law_all.tw7804374761869212844 : True := trivial
theorem Mine.law_all.tw4411415793883364592 : True := trivial
theorem Mine.law_all.tw456885184704423047 : True := trivial
theorem Mine.law_all.tw13211181752546427078 : True := trivial
theorem Mine.law_all.tw3284748957273996875 : True := trivial
theorem Mine.law_all.tw4969457626559569432 : True := trivial
theorem Mine.law_all.tw13680609273526107374 : True := trivial
theorem Mine.law_all.tw14236084546645660719 : True := trivial
theorem Mine.law_all.tw17547520148116901912 : True := trivial
theorem Mine.law_all.tw10806039510188334631 : True := trivial
theorem Mine.law_all.tw15671280296326744443 : True := trivial
theorem Mine.law_all.tw17215917983952657280 : True := trivial
theorem Mine.law_all.tw12247398745213465826 : True := trivial
theorem Mine.law_all.tw13491740491915545503 : True := trivial
theorem Mine.law_all.tw2631628752055362666 : True := trivial
theorem Mine.law_all.tw9372167265927652766 : True := trivial
theorem Mine.law_all.tw16371739260329825113 : True := trivial
theorem Mine.law_all.tw17669519193255119196 : True := trivial
theorem Mine.law_all.tw8399003694265948756 : True := trivial
theorem Mine.law_all.tw12703074045546933829 : True := trivial
theorem Mine.law_all.tw1668538180921589862 : True := trivial
theorem Mine.law_all.tw15546441815245403988 : True := trivial
theorem Mine.law_all.tw17060384074182460019 : True := trivial
theorem Mine.law_all.tw11194228370837134999 : True := trivial
theorem Mine.law_all.tw13531483092564520072 : True := trivial
theorem Mine.law_all.tw1542534431135467645 : True := trivial
theorem Mine.law_all.tw8305597428437692698 : True := trivial
theorem Mine.law_all.tw4881685112826633117 : True := trivial
theorem Mine.law_all.tw9112288994732759537 : True := trivial
theorem Mine.law_all.tw14662071744767229590 : True := trivial
theorem Mine.law_all.tw17204981761803003489 : True := trivial
theorem Mine.law_all.tw9385311596571155968 : True := trivial
theorem Mine.law_all.tw2224743311408289904 : True := trivial
theorem Mine.law_all.tw6564360385875737041 : True := trivial
theorem Mine.law_all.tw9058530902327166115 : True := trivial
theorem Mine.law_all.tw10024686837709580625 : True := trivial
theorem Mine.law_all.tw2225694422541459837 : True := trivial
theorem Mine.law_all.tw14598207043298650064 : True := trivial
theorem Mine.law_all.tw8765806042451288875 : True := trivial
theorem Mine.law_all.tw1487786111206980130 : True := trivial
theorem Mine.law_all.tw16745809935298821572 : True := trivial
theorem Mine.law_all.tw13104927337049522412 : True := trivial
theorem Mine.law_all.tw17737764639412749679 : True := trivial
theorem Mine.law_all.tw18180275025638004960 : True := trivial
theorem Mine.law_all.tw10470740866990187283 : True := trivial
theorem Mine.law_all.tw6755600590273672426 : True := trivial
theorem Mine.law_all.tw1294855798985786495 : True := trivial
theorem Mine.law_all.tw6157751959391354502 : True := trivial
theorem Mine.law_all.tw16768936007509957499 : True := trivial
theorem Mine.law_all.tw8518996810716976194 : True := trivial
theorem Mine.law_all.tw11085147635474315433 : True := trivial
theorem Mine.law_all.tw9815803367523510294 : True := trivial
theorem Mine.law_all.tw7757561431791933054 : True := trivial
theorem Mine.law_all.tw9437977712622912741 : True := trivial
theorem Mine.law_all.tw6438830307732024469 : True := trivial
theorem Mine.law_all.tw1696500276726984248 : True := trivial
theorem Mine.law_all.tw16118133896454242471 : True := trivial
theorem Mine.law_all.tw16371911816118071455 : True := trivial
theorem Mine.law_all.tw14966067393961270158 : True := trivial
theorem Mine.law_all.tw12610587468927266379 : True := trivial
theorem Mine.law_all.tw7290121776363987770 : True := trivial
theorem Mine.law_all.tw7227878493039989945 : True := trivial
theorem Mine.law_all.tw587449342414447963 : True := trivial
theorem Mine.law_all.tw7271498159299846290 : True := trivial
theorem Mine.law_all.tw17035568942905013000 : True := trivial
theorem Mine.law_all.tw7680916366514936674 : True := trivial
theorem Mine.law_all.tw10529780158634616513 : True := trivial
theorem Mine.law_all.tw12057113539981475253 : True := trivial
theorem Mine.law_all.tw11833566044642688545 : True := trivial
theorem Mine.law_all.tw15746133877532336623 : True := trivial
theorem Mine.law_all.tw16892600953724058444 : True := trivial
theorem Mine.law_all.tw782427809645370415 : True := trivial
theorem Mine.law_all.tw6237155331754066022 : True := trivial
theorem Mine.law_all.tw16741880675132489432 : True := trivial
theorem Mine.law_all.tw11911069920064303837 : True := trivial
theorem Mine.law_all.tw2113808404335124552 : True := trivial
theorem Mine.law_all.tw15076095784800757957 : True := trivial
theorem Mine.law_all.tw86908756275839534 : True := trivial
theorem Mine.law_all.tw7416931893851735294 : True := trivial
theorem Mine.law_all.tw12309555987426629805 : True := trivial
theorem Mine.law_all.tw13881306047427017735 : True := trivial
theorem Mine.law_all.tw3665484915411088083 : True := trivial
theorem Mine.law_all.tw5823586147374532853 : True := trivial
theorem Mine.law_all.tw13928278647878734309 : True := trivial
theorem Mine.law_all.tw4728599345574348774 : True := trivial
theorem Mine.law_all.tw2253686190644405003 : True := trivial
theorem Mine.law_all.tw2577563808611626836 : True := trivial
theorem Mine.law_all.tw1100412207481686545 : True := trivial
theorem Mine.law_all.tw391340077780216222 : True := trivial
theorem Mine.law_all.tw9019875401820227665 : True := trivial
theorem Mine.law_all.tw12507762813244862470 : True := trivial
theorem Mine.law_all.tw866766908457270551 : True := trivial
theorem Mine.law_all.tw3743276652137241584 : True := trivial
theorem Mine.law_all.tw4848548716629997264 : True := trivial
theorem Mine.law_all.tw2872085493576920064 : True := trivial
theorem Mine.law_all.tw13095150338055272814 : True := trivial
theorem Mine.law_all.tw16434993861110634532 : True := trivial
theorem Mine.law_all.tw11499723639459963570 : True := trivial
theorem Mine.law_all.tw16962350897556312332 : True := trivial
theorem Mine.law_all.tw17208948692691691804 : True := trivial
theorem Mine.law_all.tw12230927248747617965 : True := trivial
theorem Mine.law_all.tw11806459468589365706 : True := trivial
theorem Mine.law_all.tw2746415857694854958 : True := trivial
theorem Mine.law_all.tw10754601566845926611 : True := trivial
theorem Mine.law_all.tw18069371669798473238 : True := trivial
theorem Mine.law_all.tw7358765618238378763 : True := trivial
theorem Mine.law_all.tw7119508329715715523 : True := trivial
theorem Mine.law_all.tw1325725505073848231 : True := trivial
theorem Mine.law_all.tw4011130107991819787 : True := trivial
theorem Mine.law_all.tw7241301525396740710 : True := trivial
theorem Mine.law_all.tw12742291788480804056 : True := trivial
theorem Mine.law_all.tw12303014915382014946 : True := trivial
theorem Mine.law_all.tw11953936395949465439 : True := trivial
theorem Mine.law_all.tw6456847839567275990 : True := trivial
theorem Mine.law_all.tw7035262430463298820 : True := trivial
theorem Mine.law_all.tw12051850038722144316 : True := trivial
theorem Mine.law_all.tw289511000256421866 : True := trivial
theorem Mine.law_all.tw13697446050514408011 : True := trivial
theorem Mine.law_all.tw8259473591719373357 : True := trivial
theorem Mine.law_all.tw796818876455020728 : True := trivial
theorem Mine.law_all.tw13515836412680247291 : True := trivial
theorem Mine.law_all.tw16838179679014408406 : True := trivial
theorem Mine.law_all.tw2465578340897827915 : True := trivial
theorem Mine.law_all.tw14169471996915453906 : True := trivial
theorem Mine.law_all.tw15988576510117618290 : True := trivial
theorem Mine.law_all.tw3263060017730090603 : True := trivial
theorem Mine.law_all.tw4373205857372294398 : True := trivial
theorem Mine.law_all.tw6039264787345505811 : True := trivial
theorem Mine.law_all.tw1195523087049108795 : True := trivial
theorem Mine.law_all.tw7090190583926799169 : True := trivial
theorem Mine.law_all.tw670697118951388126 : True := trivial
theorem Mine.law_all.tw4338267340049963969 : True := trivial
theorem Mine.law_all.tw6397261156675118401 : True := trivial
theorem Mine.law_all.tw6281480290983300618 : True := trivial
theorem Mine.law_all.tw571745101423254476 : True := trivial
theorem Mine.law_all.tw13763162616901922433 : True := trivial
theorem Mine.law_all.tw8961255980978662838 : True := trivial
theorem Mine.law_all.tw8053974599713079812 : True := trivial
theorem Mine.law_all.tw18299426437183154797 : True := trivial
theorem Mine.law_all.tw7911531064090814180 : True := trivial
theorem Mine.law_all.tw1556948465960636121 : True := trivial
theorem Mine.law_all.tw937055499877386264 : True := trivial
theorem Mine.law_all.tw16759230557537464115 : True := trivial
theorem Mine.law_all.tw866564066945910344 : True := trivial
theorem Mine.law_all.tw17198419215744740974 : True := trivial
theorem Mine.law_all.tw4142882797520435500 : True := trivial
theorem Mine.law_all.tw2506844670610910573 : True := trivial
theorem Mine.law_all.tw15982079766070313398 : True := trivial
theorem Mine.law_all.tw8347406222979154285 : True := trivial
theorem Mine.law_all.tw5315506903917589002 : True := trivial
theorem Mine.law_all.tw3924797017141402407 : True := trivial
theorem Mine.law_all.tw9462809283271141762 : True := trivial
theorem Mine.law_all.tw7521826775273887693 : True := trivial
theorem Mine.law_all.tw15894988515832802272 : True := trivial
theorem Mine.law_all.tw8937883705780218553 : True := trivial
theorem Mine.law_all.tw5515175385397997255 : True := trivial
theorem Mine.law_all.tw13573102627690589801 : True := trivial
theorem Mine.law_all.tw1703305540711997886 : True := trivial
theorem Mine.law_all.tw2763200530551224835 : True := trivial
theorem Mine.law_all.tw3602784471345507114 : True := trivial
theorem Mine.law_all.tw2885707341163702077 : True := trivial
theorem Mine.law_all.tw1408806660432250928 : True := trivial
theorem Mine.law_all.tw2981204530259232531 : True := trivial
theorem Mine.law_all.tw7213851623774115239 : True := trivial
theorem Mine.law_all.tw3877723044392924569 : True := trivial
theorem Mine.law_all.tw15740732772335265587 : True := trivial
theorem Mine.law_all.tw16413752452701970063 : True := trivial
theorem Mine.law_all.tw1189080093081105346 : True := trivial
theorem Mine.law_all.tw9847930118418132646 : True := trivial
theorem Mine.law_all.tw3498384184797677056 : True := trivial
theorem Mine.law_all.tw8723218627587633102 : True := trivial
theorem Mine.law_all.tw16693345006668779598 : True := trivial
theorem Mine.law_all.tw11407212017213923087 : True := trivial
theorem Mine.law_all.tw5945882358115643694 : True := trivial
theorem Mine.law_all.tw14816879207175617225 : True := trivial
theorem Mine.law_all.tw18313445508184284481 : True := trivial
theorem Mine.law_all.tw8059288581424842436 : True := trivial
theorem Mine.law_all.tw11779399842900871346 : True := trivial
theorem Mine.law_all.tw11628095284720837169 : True := trivial
theorem Mine.law_all.tw2202764407437257358 : True := trivial
theorem Mine.law_all.tw7672995546314809169 : True := trivial
theorem Mine.law_all.tw3573340081450625464 : True := trivial
theorem Mine.law_all.tw11575233253633470811 : True := trivial
theorem Mine.law_all.tw4449761216389261190 : True := trivial
theorem Mine.law_all.tw17118986888630616858 : True := trivial
theorem Mine.law_all.tw1684386024576819110 : True := trivial
theorem Mine.law_all.tw6160080969221487542 : True := trivial
theorem Mine.law_all.tw17213219829386642084 : True := trivial
theorem Mine.law_all.tw14100515932553792916 : True := trivial
theorem Mine.law_all.tw7296818474457393607 : True := trivial
theorem Mine.law_all.tw9389932311233280350 : True := trivial
theorem Mine.law_all.tw11370059905445811129 : True := trivial
theorem Mine.law_all.tw9697324461614764831 : True := trivial
theorem Mine.law_all.tw14680051335654784553 : True := trivial
theorem Mine.law_all.tw12415261661798453589 : True := trivial
theorem Mine.law_all.tw4438399736822516121 : True := trivial
theorem Mine.law_all.tw11780552165158174459 : True := trivial
theorem Mine.law_all.tw451512973457695194 : True := trivial
theorem Mine.law_all.tw12880530043633816451 : True := trivial
theorem Mine.law_all.tw6352045179492744985 : True := trivial
theorem Mine.law_all.tw2472384424244870459 : True := trivial
theorem Mine.law_all.tw13760747126890918739 : True := trivial
theorem Mine.law_all.tw13522768611430641604 : True := trivial
theorem Mine.law_all.tw16385951753907185183 : True := trivial
theorem Mine.law_all.tw4810359999024667066 : True := trivial
theorem Mine.law_all.tw7539104779076750295 : True := trivial
theorem Mine.law_all.tw8718603462263403589 : True := trivial
theorem Mine.law_all.tw15275527861284700546 : True := trivial
theorem Mine.law_all.tw43822206185756307 : True := trivial
theorem Mine.law_all.tw12942184054927948311 : True := trivial
theorem Mine.law_all.tw14007897523862953668 : True := trivial
theorem Mine.law_all.tw15743857825236497588 : True := trivial
theorem Mine.law_all.tw17115713224241774592 : True := trivial
theorem Mine.law_all.tw6378717016339408911 : True := trivial
theorem Mine.law_all.tw18019929789766518222 : True := trivial
theorem Mine.law_all.tw11541454027444291867 : True := trivial
theorem Mine.law_all.tw3777453917453456667 : True := trivial
theorem Mine.law_all.tw9526463903346643153 : True := trivial
theorem Mine.law_all.tw16850067431916028951 : True := trivial
theorem Mine.law_all.tw51366843150158886 : True := trivial
theorem Mine.law_all.tw6281336798887741830 : True := trivial
theorem Mine.law_all.tw15817853144674484978 : True := trivial
theorem Mine.law_all.tw7565920113569585601 : True := trivial
theorem Mine.law_all.tw11256467734840833315 : True := trivial
theorem Mine.law_all.tw1224010249265392569 : True := trivial
theorem Mine.law_all.tw15256493282736253867 : True := trivial
theorem Mine.law_all.tw540954306642092798 : True := trivial
theorem Mine.law_all.tw11819635365892184359 : True := trivial
theorem Mine.law_all.tw6801470937092483863 : True := trivial
theorem Mine.law_all.tw17516141867632195740 : True := trivial
theorem Mine.law_all.tw14435836088163181261 : True := trivial
theorem Mine.law_all.tw2174520888648116866 : True := trivial
theorem Mine.law_all.tw13509177966542993873 : True := trivial
theorem Mine.law_all.tw1115311737908471259 : True := trivial
theorem Mine.law_all.tw14232367337319313231 : True := trivial
theorem Mine.law_all.tw5962365601980372440 : True := trivial
theorem Mine.law_all.tw8224182919288875669 : True := trivial
theorem Mine.law_all.tw18198261566025488028 : True := trivial
theorem Mine.law_all.tw13367176642022358155 : True := trivial
theorem Mine.law_all.tw15753174923161979217 : True := trivial
theorem Mine.law_all.tw4416124102532421093 : True := trivial
theorem Mine.law_all.tw2726533656112109469 : True := trivial
theorem Mine.law_all.tw12623802867859471158 : True := trivial
theorem Mine.law_all.tw15696156366995490489 : True := trivial
theorem Mine.law_all.tw13794602993731048600 : True := trivial
theorem Mine.law_all.tw3358472159093845929 : True := trivial
theorem Mine.law_all.tw4357118453508938140 : True := trivial
theorem Mine.law_all.tw13456863692723816207 : True := trivial
theorem Mine.law_all.tw865885312489698057 : True := trivial
theorem Mine.law_all.tw1172793060472301760 : True := trivial
theorem Mine.law_all.tw18369321035705266579 : True := trivial
theorem Mine.law_all.tw1961576592547977382 : True := trivial
theorem Mine.law_all.tw7702720457695366031 : True := trivial
theorem Mine.law_all.tw5564237334548157303 : True := trivial
theorem Mine.law_all.tw10300875812035996732 : True := trivial
theorem Mine.law_all.tw1178986762315405437 : True := trivial
theorem Mine.law_all.tw10221997122443297352 : True := trivial
theorem Mine.law_all.tw12760510453615215998 : True := trivial
theorem Mine.law_all.tw2431311244206744821 : True := trivial
theorem Mine.law_all.tw13523418062013228558 : True := trivial
theorem Mine.law_all.tw4625211604613518413 : True := trivial
theorem Mine.law_all.tw1407716047416726741 : True := trivial
theorem Mine.law_all.tw10565121375587587042 : True := trivial
theorem Mine.law_all.tw14174517074612190596 : True := trivial
theorem Mine.law_all.tw17367182206784257886 : True := trivial
theorem Mine.law_all.tw16768144245005235482 : True := trivial
theorem Mine.law_all.tw1682840521854849442 : True := trivial
theorem Mine.law_all.tw6463489072841894807 : True := trivial
theorem Mine.law_all.tw3325111520719290175 : True := trivial
theorem Mine.law_all.tw10575808222751662728 : True := trivial
theorem Mine.law_all.tw11681217401251675389 : True := trivial
theorem Mine.law_all.tw8810399088073249494 : True := trivial
theorem Mine.law_all.tw13685136416335799533 : True := trivial
theorem Mine.law_all.tw18383949787495555429 : True := trivial
theorem Mine.law_all.tw17386547048453696860 : True := trivial
theorem Mine.law_all.tw3050570416659367537 : True := trivial
theorem Mine.law_all.tw7701153426736177974 : True := trivial
theorem Mine.law_all.tw5403677533733193846 : True := trivial
theorem Mine.law_all.tw906757414912418612 : True := trivial
theorem Mine.law_all.tw12836747770095448064 : True := trivial
theorem Mine.law_all.tw8618336906785351942 : True := trivial
theorem Mine.law_all.tw581509044858899661 : True := trivial
theorem Mine.law_all.tw8755279341700096616 : True := trivial
theorem Mine.law_all.tw4959470712613272833 : True := trivial
theorem Mine.law_all.tw13066556902979482641 : True := trivial
theorem Mine.law_all.tw7163010275520755743 : True := trivial
theorem Mine.law_all.tw1288270072008814257 : True := trivial
theorem Mine.law_all.tw5480159453071252461 : True := trivial
theorem Mine.law_all.tw357486453476387696 : True := trivial
theorem Mine.law_all.tw10972643930856128791 : True := trivial
theorem Mine.law_all.tw35717200308832025 : True := trivial
theorem Mine.law_all.tw6851157634355297669 : True := trivial
theorem Mine.law_all.tw3740185271146487245 : True := trivial
theorem Mine.law_all.tw12534027776361810370 : True := trivial
theorem Mine.law_all.tw9511935718328076245 : True := trivial
theorem Mine.law_all.tw2965987889837986908 : True := trivial
theorem Mine.law_all.tw17311543511305506410 : True := trivial
theorem Mine.law_all.tw12795914074852961918 : True := trivial
theorem Mine.law_all.tw9429942708143374130 : True := trivial
theorem Mine.law_all.tw17969530034244639028 : True := trivial
theorem Mine.law_all.tw8295653638501232855 : True := trivial
theorem Mine.law_all.tw8564888430778796407 : True := trivial
theorem Mine.law_all.tw15796676433106474108 : True := trivial
theorem Mine.law_all.tw14115007137499183204 : True := trivial
theorem Mine.law_all.tw13984151417817525133 : True := trivial
theorem Mine.law_all.tw2747623398821866450 : True := trivial
theorem Mine.law_all.tw6195570281774439518 : True := trivial
theorem Mine.law_all.tw13707208606822203510 : True := trivial
theorem Mine.law_all.tw7564772252293548769 : True := trivial
theorem Mine.law_all.tw17821587149742552891 : True := trivial
theorem Mine.law_all.tw16829598718399601788 : True := trivial
theorem Mine.law_all.tw18115598367602769801 : True := trivial
theorem Mine.law_all.tw15353343082906663676 : True := trivial
theorem Mine.law_all.tw2238069962009214901 : True := trivial
theorem Mine.law_all.tw7914111920488281241 : True := trivial
theorem Mine.law_all.tw15175368528575537740 : True := trivial
theorem Mine.law_all.tw1584610834578658081 : True := trivial
theorem Mine.law_all.tw17824699565076465075 : True := trivial
theorem Mine.law_all.tw13955646682027860996 : True := trivial
theorem Mine.law_all.tw11527891035238042781 : True := trivial
theorem Mine.law_all.tw14998430357298625318 : True := trivial
theorem Mine.law_all.tw4312221214654303245 : True := trivial
theorem Mine.law_all.tw12852575843583276402 : True := trivial
theorem Mine.law_all.tw2558263876058320549 : True := trivial
theorem Mine.law_all.tw9793429609119093069 : True := trivial
theorem Mine.law_all.tw2891144412967124082 : True := trivial
theorem Mine.law_all.tw11008839944985332601 : True := trivial
theorem Mine.law_all.tw9000883745109673501 : True := trivial
theorem Mine.law_all.tw10486281728991561039 : True := trivial
theorem Mine.law_all.tw15313853814466723436 : True := trivial
theorem Mine.law_all.tw11666791612657790110 : True := trivial
theorem Mine.law_all.tw13288071306723581143 : True := trivial
theorem Mine.law_all.tw2812987420286402142 : True := trivial
theorem Mine.law_all.tw7518268271031788722 : True := trivial
theorem Mine.law_all.tw4198061620403395136 : True := trivial
theorem Mine.law_all.tw4270512862863035808 : True := trivial
theorem Mine.law_all.tw7032130934624792205 : True := trivial
theorem Mine.law_all.tw11266150474529332087 : True := trivial
theorem Mine.law_all.tw7810743181515291045 : True := trivial
theorem Mine.law_all.tw16371026202757247076 : True := trivial
theorem Mine.law_all.tw14306978333734412998 : True := trivial
theorem Mine.law_all.tw374766727668220859 : True := trivial
theorem Mine.law_all.tw5495784557159034327 : True := trivial
theorem Mine.law_all.tw17381011072343130446 : True := trivial
theorem Mine.law_all.tw18084819778460367582 : True := trivial
theorem Mine.law_all.tw10562567905742353873 : True := trivial
theorem Mine.law_all.tw8803404886157929299 : True := trivial
theorem Mine.law_all.tw10427768884268684552 : True := trivial
theorem Mine.law_all.tw14437242743615798716 : True := trivial
theorem Mine.law_all.tw14300270879109701445 : True := trivial
theorem Mine.law_all.tw13581327203777572028 : True := trivial
theorem Mine.law_all.tw11156016171303442314 : True := trivial
theorem Mine.law_all.tw13989974958611873218 : True := trivial
theorem Mine.law_all.tw12620598019160589179 : True := trivial
theorem Mine.law_all.tw645013614473375241 : True := trivial
theorem Mine.law_all.tw8836462397961589918 : True := trivial
theorem Mine.law_all.tw15955814874369106537 : True := trivial
theorem Mine.law_all.tw11587524997120335971 : True := trivial
theorem Mine.law_all.tw15823504312377517234 : True := trivial
theorem Mine.law_all.tw5407152262560994199 : True := trivial
theorem Mine.law_all.tw1038885855152599283 : True := trivial
theorem Mine.law_all.tw8858638111541304496 : True := trivial
theorem Mine.law_all.tw7757124845224084579 : True := trivial
theorem Mine.law_all.tw18437768301239656569 : True := trivial
theorem Mine.law_all.tw14142368258859480080 : True := trivial
theorem Mine.law_all.tw16164118054612635186 : True := trivial
theorem Mine.law_all.tw7297819598837024618 : True := trivial
theorem Mine.law_all.tw3896677248486430384 : True := trivial
theorem Mine.law_all.tw9741297799410488584 : True := trivial
theorem Mine.law_all.tw10143031176177733864 : True := trivial
theorem Mine.law_all.tw711021382710547372 : True := trivial
theorem Mine.law_all.tw15877617104253876215 : True := trivial
theorem Mine.law_all.tw17831633481768180021 : True := trivial
theorem Mine.law_all.tw11464865452401227656 : True := trivial
theorem Mine.law_all.tw9730515428898209248 : True := trivial
theorem Mine.law_all.tw4465393840596789326 : True := trivial
theorem Mine.law_all.tw11421492830896010466 : True := trivial
theorem Mine.law_all.tw15106878835201008470 : True := trivial
theorem Mine.law_all.tw4218093189155465367 : True := trivial
theorem Mine.law_all.tw16994514146051193508 : True := trivial
theorem Mine.law_all.tw15775596325662777338 : True := trivial
theorem Mine.law_all.tw11373430062764667247 : True := trivial
theorem Mine.law_all.tw3049941219963327188 : True := trivial
theorem Mine.law_all.tw16625629747186990877 : True := trivial
theorem Mine.law_all.tw6818535541638068524 : True := trivial
theorem Mine.law_all.tw3944966475094738777 : True := trivial
theorem Mine.law_all.tw17964100949573051663 : True := trivial
theorem Mine.law_all.tw2919649542600381882 : True := trivial
theorem Mine.law_all.tw15090710645362110852 : True := trivial
theorem Mine.law_all.tw5234447947421495549 : True := trivial
theorem Mine.law_all.tw7817977360859998167 : True := trivial
theorem Mine.law_all.tw265244927588178289 : True := trivial
theorem Mine.law_all.tw10586219493256288171 : True := trivial
theorem Mine.law_all.tw7554247435833788720 : True := trivial
theorem Mine.law_all.tw10423822332596533971 : True := trivial
theorem Mine.law_all.tw11090485264053204359 : True := trivial
theorem Mine.law_all.tw3669051535078491162 : True := trivial
theorem Mine.law_all.tw18135408350670230780 : True := trivial
theorem Mine.law_all.tw10938250296463516022 : True := trivial
theorem Mine.law_all.tw17461023701970706658 : True := trivial
theorem Mine.law_all.tw196974008228917347 : True := trivial
theorem Mine.law_all.tw14831206303057345538 : True := trivial
theorem Mine.law_all.tw7247926347573934118 : True := trivial
theorem Mine.law_all.tw7224549994232214638 : True := trivial
theorem Mine.law_all.tw15121837243256198043 : True := trivial
theorem Mine.law_all.tw8410422384732016249 : True := trivial
theorem Mine.law_all.tw7188791813448049371 : True := trivial
theorem Mine.law_all.tw10416063536870402424 : True := trivial
theorem Mine.law_all.tw2982699944288580842 : True := trivial
theorem Mine.law_all.tw10635536241202982537 : True := trivial
theorem Mine.law_all.tw4607750278909125284 : True := trivial
theorem Mine.law_all.tw2135314059674174450 : True := trivial
theorem Mine.law_all.tw9992796612143662886 : True := trivial
theorem Mine.law_all.tw13446384164382990572 : True := trivial
theorem Mine.law_all.tw4767544424974957542 : True := trivial
theorem Mine.law_all.tw8820261365336496098 : True := trivial
theorem Mine.law_all.tw14636622166468137105 : True := trivial
theorem Mine.law_all.tw14969216848811132704 : True := trivial
theorem Mine.law_all.tw4469509312023483314 : True := trivial
theorem Mine.law_all.tw3241033389818516246 : True := trivial
theorem Mine.law_all.tw10240734782212473332 : True := trivial
theorem Mine.law_all.tw10247251320241082336 : True := trivial
theorem Mine.law_all.tw17970757394946253910 : True := trivial
theorem Mine.law_all.tw17811419955406721850 : True := trivial
theorem Mine.law_all.tw3261250254779219729 : True := trivial
theorem Mine.law_all.tw18271015955350124165 : True := trivial
theorem Mine.law_all.tw15161120417280960535 : True := trivial
theorem Mine.law_all.tw1216541509919387563 : True := trivial
theorem Mine.law_all.tw2525653633432605389 : True := trivial
theorem Mine.law_all.tw17994726235332625280 : True := trivial
theorem Mine.law_all.tw4640835974096237147 : True := trivial
theorem Mine.law_all.tw5415215016402467412 : True := trivial
theorem Mine.law_all.tw11572952145666636933 : True := trivial
theorem Mine.law_all.tw15421611283047414692 : True := trivial
theorem Mine.law_all.tw7982698399765186325 : True := trivial
theorem Mine.law_all.tw5007728179111998763 : True := trivial
theorem Mine.law_all.tw743412211500013303 : True := trivial
theorem Mine.law_all.tw17138794587834298416 : True := trivial
theorem Mine.law_all.tw5113565536986230370 : True := trivial
theorem Mine.law_all.tw16611412123790042429 : True := trivial
theorem Mine.law_all.tw14375837930296264146 : True := trivial
theorem Mine.law_all.tw9339400996390342628 : True := trivial
theorem Mine.law_all.tw6250623550151289363 : True := trivial
theorem Mine.law_all.tw7979492120457570264 : True := trivial
theorem Mine.law_all.tw14448975606232184337 : True := trivial
theorem Mine.law_all.tw14038700456328504219 : True := trivial
theorem Mine.law_all.tw8998419837362456327 : True := trivial
theorem Mine.law_all.tw1469086916834449242 : True := trivial
theorem Mine.law_all.tw2394756045033803996 : True := trivial
theorem Mine.law_all.tw7292434958787203408 : True := trivial
theorem Mine.law_all.tw17870765948467921550 : True := trivial
theorem Mine.law_all.tw4971525033006987312 : True := trivial
theorem Mine.law_all.tw17413550076941298003 : True := trivial
theorem Mine.law_all.tw11316630271383740818 : True := trivial
theorem Mine.law_all.tw7470513268851451213 : True := trivial
theorem Mine.law_all.tw8636992181308737738 : True := trivial
theorem Mine.law_all.tw9285932881680792518 : True := trivial
theorem Mine.law_all.tw12485393647227945402 : True := trivial
theorem Mine.law_all.tw3694351898582876921 : True := trivial
theorem Mine.law_all.tw3053660256275331401 : True := trivial
theorem Mine.law_all.tw12426150187355495272 : True := trivial
theorem Mine.law_all.tw34981568851968291 : True := trivial
theorem Mine.law_all.tw1485154726033263068 : True := trivial
theorem Mine.law_all.tw3907663706730131783 : True := trivial
theorem Mine.law_all.tw4676387156939204929 : True := trivial
theorem Mine.law_all.tw1770321641891747666 : True := trivial
theorem Mine.law_all.tw8144562630861866219 : True := trivial
theorem Mine.law_all.tw1941046448484579991 : True := trivial
theorem Mine.law_all.tw498969334165971575 : True := trivial
theorem Mine.law_all.tw16802804513485658213 : True := trivial
theorem Mine.law_all.tw7244142420057014546 : True := trivial
theorem Mine.law_all.tw5331902312086228352 : True := trivial
theorem Mine.law_all.tw1809502294756820286 : True := trivial
theorem Mine.law_all.tw1678774688637317811 : True := trivial
theorem Mine.law_all.tw9881681013793774600 : True := trivial
theorem Mine.law_all.tw2154737406897626791 : True := trivial
theorem Mine.law_all.tw15845778499796225489 : True := trivial
theorem Mine.law_all.tw11836482064631991793 : True := trivial
theorem Mine.law_all.tw18041836178462933985 : True := trivial
theorem Mine.law_all.tw17585104241551753366 : True := trivial
theorem Mine.law_all.tw17491269327052831879 : True := trivial
theorem Mine.law_all.tw6567813324483764927 : True := trivial
theorem Mine.law_all.tw7658680413803366864 : True := trivial
theorem Mine.law_all.tw5046676412343541489 : True := trivial
theorem Mine.law_all.tw17293483708993535449 : True := trivial
theorem Mine.law_all.tw15627020587669677704 : True := trivial
theorem Mine.law_all.tw17610193108198147946 : True := trivial
theorem Mine.law_all.tw16610364562264112213 : True := trivial
theorem Mine.law_all.tw1155645803786910667 : True := trivial
theorem Mine.law_all.tw17213418721671049187 : True := trivial
theorem Mine.law_all.tw17238692654854937651 : True := trivial
theorem Mine.law_all.tw18424452837839797475 : True := trivial
theorem Mine.law_all.tw8810683771702325575 : True := trivial
theorem Mine.law_all.tw14978941665995686438 : True := trivial
theorem Mine.law_all.tw8728232868735216457 : True := trivial
theorem Mine.law_all.tw2081400668093259977 : True := trivial
theorem Mine.law_all.tw12074057436302401830 : True := trivial
theorem Mine.law_all.tw6495852183210934563 : True := trivial
theorem Mine.law_all.tw17633126580248655646 : True := trivial
theorem Mine.law_all.tw18024192373445878068 : True := trivial
theorem Mine.law_all.tw4179209112946984403 : True := trivial
theorem Mine.law_all.tw14832577517017574144 : True := trivial
theorem Mine.law_all.tw18057137985718396609 : True := trivial
theorem Mine.law_all.tw11404586228399824523 : True := trivial
theorem Mine.law_all.tw5964670041877113058 : True := trivial
theorem Mine.law_all.tw10355209187767673200 : True := trivial
theorem Mine.law_all.tw11688695010476522603 : True := trivial
theorem Mine.law_all.tw5970844899898935343 : True := trivial
theorem Mine.law_all.tw17009404168889603793 : True := trivial
theorem Mine.law_all.tw12857768353395258856 : True := trivial
theorem Mine.law_all.tw1462358456018306731 : True := trivial
theorem Mine.law_all.tw5591302951066050737 : True := trivial
theorem Mine.law_all.tw3206805621277776192 : True := trivial
theorem Mine.law_all.tw5176073063277498486 : True := trivial
theorem Mine.law_all.tw4527195061187594670 : True := trivial
set_option Elab.async true in
theorem Mine.law_all : PySem.Challenge.rw_kq0019_04.Holds := by
  w_on
  o_law
  o_head (kHook Mine.hd.heap_1 [2, 3, 33, 35, 36, 38, 39, 40, 42, 43, 45, 46, 47, 49, 50, 52, 53, 54, 61, 62, 63, 64, 74, 76, 77, 79, 80, 81, 82, 83, 84, 85, 86, 89, 96, 97, 98, 101, 108, 109, 110, 113, 120, 121, 123, 124, 126, 127, 128, 130, 131, 133, 134, 135, 137, 138, 140, 141, 142, 144, 145, 147, 148, 149, 150, 152, 153, 155, 156, 157, 159, 160, 162, 163, 164, 166, 167, 169, 170, 171, 173, 174, 176, 177, 178, 180, 181, 183, 184, 185, 187, 188, 190, 191, 192, 194, 195, 197, 198, 199, 201, 202, 204, 205, 206, 208, 209, 211, 212, 213, 215, 216, 218, 219, 220, 222, 223, 225, 226, 227, 229, 230, 232, 233, 234, 236, 237, 239, 240, 241, 242, 244, 245, 247, 248, 249, 250, 252, 253, 255, 256, 257, 258, 260, 261, 263, 264, 265, 266, 268, 269, 271, 272, 273, 275, 276, 278, 279, 280, 282, 283, 285, 286, 287, 288, 290, 291, 293, 294, 295, 296, 298, 299, 301, 302, 303, 305, 306, 308, 309, 310, 312, 313, 315, 316, 317, 319, 320, 322, 323, 324, 326, 327, 329, 330, 331, 333, 334, 336, 337, 338, 339, 340, 343, 350, 351, 353, 354, 356, 357, 358, 360, 361, 363, 364, 365, 367, 368, 370, 371, 372, 374, 375, 377, 378, 379, 381, 382, 384, 385, 386, 388, 389, 391, 392, 393, 394, 396, 397, 399, 400, 401, 402, 404, 405, 407, 408, 409, 410, 412, 413, 415, 416, 417, 418, 420, 421, 423, 424, 425, 426, 428, 429, 431, 432, 433, 435, 436, 438, 439, 440, 442, 443, 445, 446, 447, 449, 450, 452, 453, 454, 456, 457, 459, 460, 461, 463, 464, 466, 467, 468, 470, 471, 473, 474, 475, 477, 478, 480, 481, 482, 484, 485, 487, 488, 489, 491, 492, 494, 495, 496, 498, 499, 501, 502, 503, 505, 506, 508, 509, 510, 511, 513, 514, 516, 517, 518, 519, 521, 522, 524, 525, 526, 527, 529, 530, 532, 533, 534, 535, 537, 538, 540, 541, 542, 543, 545, 546, 548, 549, 550, 552, 553, 555, 556, 557, 559, 560, 562, 563, 564, 566, 567, 569, 570, 571, 573, 574, 576, 577, 578, 580, 581, 583, 584, 585, 586, 587, 590, 592, 593, 595, 596, 597, 599, 600, 602, 603, 604, 606, 607, 609, 610, 611, 613, 614, 616, 617, 618, 620, 621, 623, 624, 625, 627, 628, 630, 631, 639, 640, 642, 643, 645, 646, 647, 649, 650, 652, 653, 654, 655, 657, 658, 660, 661, 662, 663, 665, 666, 668, 669, 670, 672, 673, 675, 676, 677, 679, 680, 682, 683, 684, 686, 687, 689, 690, 691, 693, 694, 696, 697, 698, 699, 701, 702, 704, 705, 706, 708, 709, 711, 712, 713, 715, 716, 718, 719, 720, 721, 722, 723, 724, 727, 729, 730, 732, 733, 734, 736, 737, 739, 740, 741, 743, 744, 746, 747, 748, 751, 752] (fun _ => by kernel_rfl))
  (case hw => w_witness2)
  (apply Mine.free; (case a => exact trivial); (case b => exact trivial); (case c => exact trivial); (case d => exact trivial); (case e => exact trivial); (case f => exact trivial); (case g => exact trivial); (case h => exact trivial); (case i => exact trivial); (case j => exact trivial); (case k => exact trivial); (case l => exact trivial); (case m => exact trivial); (case n => exact trivial); (case o => exact trivial); (case q => exact trivial); (case r => exact trivial); (case s => exact trivial); (case t => exact trivial); (case u => exact trivial); (case v => exact trivial); (case w => exact trivial); (case x => exact trivial); (case y => exact trivial); (case z => exact trivial); (case A => exact trivial); (case B => exact trivial); (case C => exact trivial); (case D => exact trivial); (case E => exact trivial); (case F => exact trivial); (case G => exact trivial); (case H => exact trivial); (case I => exact trivial); (case J => exact trivial); (case K => exact trivial); (case L => exact trivial); (case M => exact trivial); (case N => exact trivial); (case O => exact trivial); (case P => exact trivial); (case Q => exact trivial); (case R => exact trivial); (case S => exact trivial); (case T => exact trivial); (case U => exact trivial); (case V => exact trivial); (case W => exact trivial); (case X => exact trivial); (case Y => exact trivial); (case Z => exact trivial); (case e1 => exact trivial); (case e2 => exact trivial); (case e3 => exact trivial); (case e4 => exact trivial); (case e5 => exact trivial); (case e6 => exact trivial); (case e7 => exact trivial); (case e8 => exact trivial); (case e9 => exact trivial); (case e10 => exact trivial); (case k1 => exact trivial); (case k2 => exact trivial); (case k3 => exact trivial); (case k4 => exact trivial); (case k5 => exact trivial); (case k6 => exact trivial); (case k7 => exact trivial); (case k8 => exact trivial); (case k9 => exact trivial); (case k10 => exact trivial); (case k11 => exact trivial); (case k12 => exact trivial); (case k13 => exact trivial); (case k14 => exact trivial); (case k15 => exact trivial); (case h1 => exact trivial); (case h2 => exact trivial); (case h3 => exact trivial); (case h4 => exact trivial); (case h5 => exact trivial); (case h6 => exact trivial); (case hr => exact trivial); (case hp => exact trivial); (case hi => exact trivial); (case hv => exact trivial); (case hz => exact trivial); (case sz => exact trivial); (case sub => exact trivial); (case hQ => exact trivial); (case hE => exact trivial); (case hP => exact trivial); (case hC => exact trivial); (case hx => exact trivial); (case ka => exact trivial); (case kb => exact trivial))
  k_go0
  all_goals try k_fold
  (repeat' (first | (k_unfold; (try dsimp only)) | ((fail_if_success (with_reducible show wpAny _ _ (execs (Stmt.If _ _ _ _ :: _) _) _ _ _)); walk1)))
  rename World => w
  rename Shared => s1
  rename Fr _ _ _ _ => F1
  rename News _ _ _ _ => N1
  rename IntsAre _ _ => hi1
  refine Mine.lw4_if (g := s1.heap) (L := s1.heap.objs.size) ?h1 ?h2
  case h1 =>
    k_steps
    · refine' Mine.lw4_mid ?F ?N ?i ?e1 ?e2 ?e4 ?e3 ?sub
      case F => assumption
      case N => assumption
      case e3 => exact if_pos rfl
      case sub => exact List.Mem.head _
      case i => exact .cons 0 _ .nil
      case e1 => simp
      case e2 => simp
      case e4 => intro n hn; rw [List.mem_singleton.mp hn]; decide
    · refine' Mine.lw4_mid ?F ?N hi1 ?e1 ?e2 Mine.num_ok ?e3 ?sub
      case F => assumption
      case N => assumption
      case e3 => exact if_pos rfl
      case sub => exact List.Mem.tail _ (List.Mem.head _)
      case e1 => exact of_decide_eq_false (by assumption)
      case e2 => simp only [List.length_map]; omega
  case h2 =>
    clear F1 N1 hi1
    intro h2 tk2 D vs nums nn m2 F2 N2 hi2 hne2 hlen2 hnum
    cases hi2 with
    | nil => exact absurd rfl hne2
    | cons n0 t0 hi2 =>
    rename List Value => vs0
    rename List Int => ns0
    (apply Mine.free; (case a => exact trivial); (case b => exact trivial); (case c => exact trivial); (case d => exact trivial); (case e => exact trivial); (case f => exact trivial); (case g => exact trivial); (case h => exact trivial); (case i => exact trivial); (case j => exact trivial); (case k => exact trivial); (case l => exact trivial); (case m => exact trivial); (case n => exact trivial); (case o => exact trivial); (case q => exact trivial); (case r => exact trivial); (case s => exact trivial); (case t => exact trivial); (case u => exact trivial); (case v => exact trivial); (case w => exact trivial); (case x => exact trivial); (case y => exact trivial); (case z => exact trivial); (case A => exact trivial); (case B => exact trivial); (case C => exact trivial); (case D => exact trivial); (case E => exact trivial); (case F => exact trivial); (case G => exact trivial); (case H => exact trivial); (case I => exact trivial); (case J => exact trivial); (case K => exact trivial); (case L => exact trivial); (case M => exact trivial); (case N => exact trivial); (case O => exact trivial); (case P => exact trivial); (case Q => exact trivial); (case R => exact trivial); (case S => exact trivial); (case T => exact trivial); (case U => exact trivial); (case V => exact trivial); (case W => exact trivial); (case X => exact trivial); (case Y => exact trivial); (case Z => exact trivial); (case e1 => exact trivial); (case e2 => exact trivial); (case e3 => exact trivial); (case e4 => exact trivial); (case e5 => exact trivial); (case e6 => exact trivial); (case e7 => exact trivial); (case e8 => exact trivial); (case e9 => exact trivial); (case e10 => exact trivial); (case k1 => exact trivial); (case k2 => exact trivial); (case k3 => exact trivial); (case k4 => exact trivial); (case k5 => exact trivial); (case k6 => exact trivial); (case k7 => exact trivial); (case k8 => exact trivial); (case k9 => exact trivial); (case k10 => exact trivial); (case k11 => exact trivial); (case k12 => exact trivial); (case k13 => exact trivial); (case k14 => exact trivial); (case k15 => exact trivial); (case h1 => exact trivial); (case h2 => exact trivial); (case h3 => exact trivial); (case h4 => exact trivial); (case h5 => exact trivial); (case h6 => exact trivial); (case hr => exact trivial); (case hp => exact trivial); (case hi => exact trivial); (case hv => exact trivial); (case hz => exact trivial); (case sz => exact trivial); (case sub => exact trivial); (case hQ => exact trivial); (case hE => exact trivial); (case hP => exact trivial); (case hC => exact trivial); (case hx => exact trivial); (case ka => exact trivial); (case kb => exact trivial))
    (repeat' (first | (k_unfold; (try dsimp only)) | ((fail_if_success (with_reducible show wpAny _ _ (eval (Expr.IfExp _ _ _ _) _) _ _ _)); walk1)))
    refine Mine.end_val (b := (((n0 :: ns0).getD (Int.toNat 0) 0).fmod 2 == 1)) ?_ ?_
    · k_steps
      · rename Int.fmod _ 2 = 1 => h7
        rw [h7]; rfl
      · rename Int.fmod _ 2 ≠ 1 => h7
        rw [beq_eq_false_iff_ne.mpr h7]; exact ⟨_, rfl⟩
    intro endv k5 hend
    generalize (((n0 :: ns0).getD (Int.toNat 0) 0).fmod 2 == 1) = b at hend
    have hn0 := hnum _ (.head _)
    (repeat' (first | (k_unfold; (try dsimp only)) | ((fail_if_success (with_reducible show wpAny _ _ (call (Value.ref 733) _) _ _ _)); walk1)))
    have hf0 : 0 ≤ ((n0 :: ns0).getD (Int.toNat 0) 0).fdiv 2 ∧ ((n0 :: ns0).getD (Int.toNat 0) 0).fdiv 2 ≤ n0 := by
      show 0 ≤ n0.fdiv 2 ∧ n0.fdiv 2 ≤ n0
      rw [Int.fdiv_eq_ediv_of_nonneg _ (by decide)]; omega
    rename Fr _ _ _ _ => F3
    rename News _ _ _ _ => N3
    refine' Mine.src4 ?k1 F3 ?k3 ?k4 ?k5 ?k6 hf0.1 (by omega) N3 ?_
    case k1 => k_asm
    case k3 => k_asm
    case k4 => k_asm
    case k5 => k_room
    case k6 => k_units
    intro h4 k4 q a wl tups n' tn' tx t1 nv tl ld tld vs4 wk ws4 F4 N4 hnv hw4 hr4 hw4n hn4 hld4 htx4 hnd4
    clear F3 N3
    have hnd5 := hnd4 (by unfold Mine.ND; simp)
    (repeat' (first | (k_unfold; (try dsimp only)) | ((fail_if_success (with_reducible show wpAny _ _ (setItem _ _ _) _ _ _)); walk1)))
    rename Fr _ _ _ _ => F5
    rename News _ _ _ _ => N5
    refine ki_set (q := .int n' tn' :: vs0) F5 N5 (by decide) (by decide) rfl (Mine.upd_nd (pre := (q, _) :: (a, _) :: (wl, _) :: tups) (post := []) hnd5) ?_
    intro h6 F6 N6
    clear F5 N5
    (repeat' (first | (k_unfold; (try dsimp only)) | ((fail_if_success (with_reducible show wpAny _ _ (call (Value.ref 722) _ _) _ _ _)); walk1)))
    refine Mine.is_none hend ?_
    (repeat' (first | (k_unfold; (try dsimp only)) | ((fail_if_success (with_reducible show wpAny _ _ (call (Value.ref 722) _ _) _ _ _)); walk1)))
    rename Fr _ _ _ _ => F7
    rename News _ _ _ _ => N7
    refine' Mine.ctor4 ?k1 F7 ?k3 ?k4 ?k5 ?k6 (by rw [Mine.S_length']; omega) N7 ?_
    case k1 => k_asm
    case k3 => k_asm
    case k4 => k_asm
    case k5 => k_room
    case k6 => k_units
    intro lx dx io iod pb fs h9 kt LT1 ev2 tp1 ts tl2 tt k9 F9 hev2 o1 o2 o3 o4 o5 a1 a2 a3 a4 N9
    clear F7 N7
    (repeat' (first | (k_unfold; (try dsimp only)) | ((fail_if_success (with_reducible show wpAny _ _ (newList _) _ _ _)); walk1)))
    rename Fr _ _ _ _ => F10
    rename News _ _ _ _ => N10
    refine Mine.nl0 F10 N10 (by show 1 ≤ 100; omega) ?_
    intro sa h10 F11 N11 o11
    clear F10 N10
    (repeat' (first | (k_unfold; (try dsimp only)) | ((fail_if_success (with_reducible show wpAny _ _ (newList _) _ _ _)); walk1)))
    rename Fr _ _ _ _ => F12
    rename News _ _ _ _ => N12
    refine Mine.nl0 F12 N12 (by show 0 ≤ 100; omega) ?_
    intro pa h12 F13 N13 o13
    clear F12 N12
    (repeat' (first | (k_unfold; (try dsimp only)) | ((fail_if_success (with_reducible show wpAny _ _ (pyIter _) _ _ _)); walk1)))
    rename Fr _ _ _ _ => FP
    rename News _ _ _ _ => NP
    have hap : Mine.Ap4 pb lx dx fs := ⟨o1, Nat.ne_of_lt (Nat.lt_trans o2 (Nat.lt_trans o3 o4)), Nat.ne_of_lt (Nat.lt_trans o1 (Nat.lt_trans o2 (Nat.lt_trans o3 o4))), Nat.ne_of_lt (Nat.lt_trans o1 (Nat.lt_trans o2 (Nat.lt_trans o3 (Nat.lt_trans o4 o5)))), Nat.ne_of_gt (Nat.lt_trans o2 (Nat.lt_trans o3 (Nat.lt_trans o4 o5))), Nat.ne_of_lt o5⟩
    have hlp : @LT.lt Nat _ lx pb := Nat.lt_trans o2 (Nat.lt_trans o3 o4)
    have hfs : @LT.lt Nat _ fs sa := o11 (fs, _) (.tail _ (.tail _ (.tail _ (.tail _ (.tail _ (.head _))))))
    have hsp : @LT.lt Nat _ sa pa := o13 (sa, _) (.head _)
    have hsnd := Mine.start_nd (P := w.params) (T1 := LT1) (b := b) (ev := ev2) (op := W.listOf (([] : List Value)).toArray 0) (os := W.listOf ([Value.ref a]).reverse.toArray 0) (oa' := W.listOf [nv, .int 1 tl, .ref wl, .int ld tld].toArray 0) (ow' := W.listOf vs4.toArray wk) (c := ⟨io, iod, kt, tx, 0, tp1, [], 0, nv, .str (Str.ofString " ") ts, 1, tl2, Str.ofString "", tt, [], 0⟩) hap o2 o3 o4 o5 (Mine.allLt_of' a1) hfs hsp hnd5
    have hr0 := hr4.ok
    have hsrc : Mine.SrcOk ⟨nv, 1, ws4, ld⟩ := ⟨hnv, (show (0 : Int) ≤ 1 by decide), hr0.1, hr0.2.1, by have := hr0.2.2; dsimp only; omega, by dsimp only; omega⟩
    have hSt : Mine.StackAt [.ref a] [⟨nv, 1, ws4, ld⟩] ((a, W.listOf [nv, .int 1 tl, .ref wl, .int ld tld].toArray 0) :: (wl, W.listOf vs4.toArray wk) :: (tups ++ [])) := Mine.StackAt.cons a wl 0 wk tl tld ⟨nv, 1, ws4, ld⟩ hw4 .nil
    refine Mine.ints_free4 (ns := n' :: ns0) (vs := .int n' tn' :: vs0) (Mine.J5 w.params LT1 b ev2 endv pb lx dx fs sa pa) rfl (.cons n' tn' hi2) FP (Mine.start5 NP) hsnd.2 ?gJ ?gT ?gD
    case gJ =>
      refine Mine.j5_mk ⟨⟨io, iod, kt, tx, 0, tp1, [], 0, nv, .str (Str.ofString " ") ts, 1, tl2, Str.ofString "", tt, [], 0⟩, [], ⟨[.ref a], [⟨nv, 1, ws4, ld⟩], (a, W.listOf [nv, .int 1 tl, .ref wl, .int ld tld].toArray 0) :: (wl, W.listOf vs4.toArray wk) :: (tups ++ []), 0⟩, [], 0, [], [⟨nv, 1, ws4, ld⟩], false, 0, 0⟩ FP ?hk ⟨⟨⟨_, [], .white, rfl, rfl, rfl, Mine.S_nil, htx4, Mine.nm_handed hnv, o2, o3, ⟨_, rfl⟩, .inl ⟨rfl, hr4⟩, .nil⟩, .nil, by simp, by simp⟩, ⟨hSt, rfl, by simp, by simpa using hsrc, by simp, .nil, by simp, by simp⟩, fun _ => ⟨_, rfl⟩⟩ hsnd.1 (by simp)
      case hk =>
        refine Mine.all5p (P := fun p : Str × Value => _ = some p.2) ?_ ?_ ?_ ?_ ?_
        all_goals simp only [Mine.l4n2, Mine.l4n3, Mine.l4n4, Mine.l4n5, if_true, if_false]
    case gT =>
      clear FP NP
      rintro i n t m₁ nx h tk I oI ol hn hIl ⟨z, m', rfl, rfl, hz, hnd, hxl⟩ hadr F N
      change Fr s1.heap s1.heap.objs.size _ _ at F
      change News s1.heap s1.heap.objs.size _ _ at N
      have hi20 : i < 20 := by
        have := (List.getElem?_eq_some_iff.mp hn).1
        simp only [List.length_cons] at this hlen2
        have := hi2.length
        omega
      have hnn : 0 ≤ n ∧ n < 10 ^ 10 := by
        have := List.mem_of_getElem? hn
        rcases List.mem_cons.mp this with rfl | h
        · omega
        · exact hnum n (.tail _ h)
      (repeat' (first | (k_unfold; (try dsimp only)) | ((fail_if_success (with_reducible show wpAny _ _ (exec (Stmt.While _ _ _ _) _) _ _ _)); walk1)))
      rename Fr _ _ _ _ => F2
      rename News _ _ _ _ => N2
      refine' Mine.wf_while (σ := Mine.St4) (fun z => Mine.led5 w.params LT1 b ev2 pb lx dx fs sa pa z ++ [(I, oI), (D, ol)]) (Mine.ps6 lx sa pa endv) (Mine.P6 w.params LT1 b ev2 pb lx dx fs sa pa [(I, oI), (D, ol)] i) (Mine.X6 w.params LT1 b ev2 pb lx dx fs sa pa [(I, oI), (D, ol)] i) (fun z => z.n.toNat) { z with n := n + 1, tn := ?tz } F2 N2 ?w1 ⟨⟨hz.x, hz.i, hz.o⟩, Mine.nd_two_r hnd hadr hIl, by dsimp only; omega, 12, by dsimp only; omega, by dsimp only; omega⟩ ?w2 ?w3
      case w1 =>
        refine Mine.all6p (P := fun p : Str × Value => _ = some p.2) ?_ ?_ ?_ ?_ ?_ ?_
        · exact if_pos rfl
        all_goals simp only [kstB, Mine.l4n2, Mine.l4n3, Mine.l4n4, Mine.l4n5, Mine.l4n6, if_true, if_false]
      case w3 =>
        clear F2 N2
        intro z3 u3 h3 tk3 hX F3 N3
        k_steps
        exact Mine.j5_end F3 N3 Mine.ps6_5 hX
      case w2 =>
        clear F2 N2
        rintro ⟨c1, stk1, v1, pvs1, pk1, xs1, ss1, ov1, n1, tn1⟩ u1 h4 tk4 ⟨hI1, hnd1, hn1, j1, hj1, hj2⟩ F4 N4
        dsimp only at hn1 hj1 hj2 F4
        by_cases hpos : 0 < n1
        · have f1 : 0 ≤ (n1 - 1).fdiv 8 ∧ (n1 - 1).fdiv 8 < n1 := by rw [Int.fdiv_eq_ediv_of_nonneg (n1 - 1) (by decide)]; omega
          have f2 : 0 ≤ (n1 - 1).fmod 8 ∧ (n1 - 1).fmod 8 < 8 := ⟨Int.fmod_nonneg_of_pos _ (by decide), Int.fmod_lt_of_pos _ (by decide)⟩
          obtain ⟨j3, g1, g2⟩ := Mine.p6_step hpos hj1 hj2
          (repeat' (first | (k_unfold; (try dsimp only)) | ((fail_if_success (with_reducible show wpAny _ _ (execs (Stmt.If _ _ _ _ :: _) _) _ _ _)); walk1)))
          rename Fr _ _ _ _ => F5
          rename News _ _ _ _ => N5
          have N6 := Mine.news_tl N5
          rw [Mine.led5_app] at N6 hnd1
          dsimp only at N6 hnd1
          clear N5
          refine execs_mid (Mine.WfAt s1.heap s1.heap.objs.size s1 (fun z => Mine.led5 w.params LT1 b ev2 pb lx dx fs sa pa z ++ [(I, oI), (D, ol)]) (Mine.ps6 lx sa pa endv) (fun z => Mine.P6 w.params LT1 b ev2 pb lx dx fs sa pa [(I, oI), (D, ol)] i z ∧ z.n.toNat < n1.toNat)) ?mA ?mB
          case mA =>
            by_cases d4 : (n1 - 1).fmod 8 < 4
            · (repeat' (first | (k_unfold; (try dsimp only)) | ((fail_if_success (with_reducible show wpAny _ _ (call (Value.ref 740) _) _ _ _)); walk1)))
              rename Fr _ _ _ _ => F7
              refine' Mine.law_next ?k1 F7 ?k3 ?k4 ?k5 ?k6 hI1.i (Mine.rot_nd hnd1) (Mine.rot_news N6) ?_
              case k1 => k_asm
              case k3 => k_asm
              case k4 => k_asm
              case k5 => k_room
              case k6 => k_units
              intro h8 v8 v8' pvs8 pk8 k8 F8 N8 D8 L8 T8
              dsimp only at L8 T8
              have N9 := Mine.rot_back N8
              have D9 := Mine.rot_ndb D8
              clear F7 N8 D8 N6
              cases ov1 with
              | true =>
                (repeat' (first | (k_unfold; (try dsimp only)) | ((fail_if_success (with_reducible show wpAny _ _ (call (Value.ref 683) _) _ _ _)); walk1)))
                rename Fr _ _ _ _ => F10
                rename News _ _ _ _ => N10
                refine' Mine.lex_next hap hlp hev2 ?q1 F10 ?q3 ?q4 ?q5 ?q6 hI1.x D9 N10 ?_
                case q1 => k_asm
                case q3 => k_asm
                case q4 => k_asm
                case q5 => k_room
                case q6 => k_units
                intro h11 v11 c11 stk11 k11 F11 N11 D11 X11 T11 S11 W11
                clear N10 F10
                (repeat' (first | (k_unfold; (try dsimp only)) | ((fail_if_success (with_reducible show wpAny _ _ (compareOp CmpOp.NotEq _ _) _ _ _)); walk1)))
                refine Mine.ne_vt T11 T8 hev2 hend ?_
                k_steps
                rename Fr _ _ _ _ => F12
                refine' Mine.wf_at ⟨c11, stk11, v8', pvs8, pk8, (Mine.nextX xs1 ss1).2.1, (Mine.nextX xs1 ss1).2.2, true, (n1 - 1).fdiv 8, ?tzA⟩ F12 (by (try dsimp only); rw [Mine.led5_app]; exact N11) ?hk ⟨⟨⟨X11, L8, ?ho⟩, by rw [Mine.led5_app]; exact D11, ⟨f1.1, by (try dsimp only); omega⟩, j3, g1, by have := Mine.nextX_len (xs := xs1) (ss := ss1); (try dsimp only); omega⟩, by (try dsimp only); omega⟩
                case hk =>
                  refine Mine.all6p (P := fun p : Str × Value => _ = some p.2) ?_ ?_ ?_ ?_ ?_ ?_
                  all_goals simp only [kstB, Mine.l4n1, Mine.l4n2, Mine.l4n3, Mine.l4n4, Mine.l4n5, Mine.l4n6, if_true, if_false] <;> rfl
                case ho =>
                  exact fun h => by cases h
              | false =>
                (repeat' (first | (k_unfold; (try dsimp only)) | ((fail_if_success (with_reducible show wpAny _ _ (compareOp CmpOp.Eq _ _) _ _ _)); walk1)))
                refine Mine.eq_vt T8 hend ?_
                intro r hr
                (repeat' (first | (k_unfold; (try dsimp only)) | ((fail_if_success (with_reducible show wpAny _ _ (call (Value.ref 683) _) _ _ _)); walk1)))
                rename Fr _ _ _ _ => F10
                rename News _ _ _ _ => N10
                refine' Mine.lex_next hap hlp hev2 ?q1 F10 ?q3 ?q4 ?q5 ?q6 hI1.x D9 N10 ?_
                case q1 => k_asm
                case q3 => k_asm
                case q4 => k_asm
                case q5 => k_room
                case q6 => k_units
                intro h11 v11 c11 stk11 k11 F11 N11 D11 X11 T11 S11 W11
                clear N10 F10
                (repeat' (first | (k_unfold; (try dsimp only)) | ((fail_if_success (with_reducible show wpAny _ _ (compareOp CmpOp.NotEq _ _) _ _ _)); walk1)))
                refine Mine.ne_vt T11 T8 hev2 hend ?_
                k_steps
                rename Fr _ _ _ _ => F12
                refine' Mine.wf_at ⟨c11, stk11, v8', pvs8, pk8, (Mine.nextX xs1 ss1).2.1, (Mine.nextX xs1 ss1).2.2, r, (n1 - 1).fdiv 8, ?tzB⟩ F12 (by (try dsimp only); rw [Mine.led5_app]; exact N11) ?hk ⟨⟨⟨X11, L8, ?ho⟩, by rw [Mine.led5_app]; exact D11, ⟨f1.1, by (try dsimp only); omega⟩, j3, g1, by have := Mine.nextX_len (xs := xs1) (ss := ss1); (try dsimp only); omega⟩, by (try dsimp only); omega⟩
                case hk =>
                  refine Mine.all6p (P := fun p : Str × Value => _ = some p.2) ?_ ?_ ?_ ?_ ?_ ?_
                  all_goals simp only [kstB, Mine.l4n1, Mine.l4n2, Mine.l4n3, Mine.l4n4, Mine.l4n5, Mine.l4n6, if_true, if_false] <;> rfl
                case ho =>
                  intro hr0
                  have hno : (Mine.nextX xs1 ss1).1 ≠ none := fun e => by have := hr e; dsimp only at hr0; rw [hr0] at this; cases this
                  by_cases hx0 : xs1 = []
                  · exact W11 hno hx0
                  · dsimp only
                    rw [S11 hx0]
                    exact hI1.o rfl
            · by_cases d6 : (n1 - 1).fmod 8 < 6
              · (repeat' (first | (k_unfold; (try dsimp only)) | ((fail_if_success (with_reducible show wpAny _ _ (call (Value.ref 733) _) _ _ _)); walk1)))
                rename Fr _ _ _ _ => F7
                refine' Mine.src4 ?k1 F7 ?k3 ?k4 ?k5 ?k6 f1.1 (by omega) N6 ?_
                case k1 => k_asm
                case k3 => k_asm
                case k4 => k_asm
                case k5 => k_room
                case k6 => k_units
                intro h8 k8 q8 a8 wl8 tups8 n8 tn8 tx8 t8 nv8 tl8 ld8 tld8 vs8 wk8 ws8 F8 N8 hnv8 hw8 hr8 hwn8 hn8 hld8 htx8 hnd8
                have D8 := Mine.nd_tl (hnd8 hnd1)
                clear F7 N6 hnd8
                cases ov1 with
                | true =>
                  k_steps
                  rename Fr _ _ _ _ => F12
                  rename News _ _ _ _ => N12
                  refine' Mine.wf_at ⟨c1, stk1, v1, pvs1, pk1, xs1, ss1, true, n8, ?tzC⟩ F12 (by (try dsimp only); rw [Mine.led5_app]; exact fun p hp => N12 p (.tail _ (.tail _ (.tail _ (List.mem_append_right _ hp))))) ?hk ⟨⟨⟨hI1.x, hI1.i, hI1.o⟩, by rw [Mine.led5_app]; exact hnd1, ⟨hn8.1, by (try dsimp only); omega⟩, j3, by (try dsimp only); omega, by (try dsimp only); omega⟩, by show n8.toNat < n1.toNat; omega⟩
                  case hk =>
                    refine Mine.all6p (P := fun p : Str × Value => _ = some p.2) ?_ ?_ ?_ ?_ ?_ ?_
                    all_goals simp only [kstB, Mine.l4n1, Mine.l4n2, Mine.l4n3, Mine.l4n4, Mine.l4n5, Mine.l4n6, if_true, if_false] <;> rfl
                | false =>
                  (repeat' (first | (k_unfold; (try dsimp only)) | ((fail_if_success (with_reducible show wpAny _ _ (call (Value.builtin "len") _) _ _ _)); walk1)))
                  rename News _ _ _ _ => N9
                  have hvl : v1.vs.reverse.length = ss1.length := by rw [List.length_reverse, hI1.i.st.length, hI1.i.e]
                  have hs20 := hI1.i.n
                  dsimp only at hs20
                  refine Mine.len_few N9 (.tail _ (.tail _ (.tail _ (List.mem_append_right _ (List.mem_append_right _ (List.mem_append_right _ (.tail _ (.head _)))))))) (by omega) ?_
                  rw [hvl]
                  have NA := Mine.news_more N9 (x := (dx, _)) (.tail _ (.tail _ (.tail _ (List.mem_append_right _ (List.mem_append_left _ (.tail _ (.tail _ (.tail _ (.tail _ (.head _))))))))))
                  have NB := Mine.news_more NA (x := (lx, _)) (.tail _ (.tail _ (.tail _ (.tail _ (List.mem_append_right _ (List.mem_append_left _ (.tail _ (.tail _ (.tail _ (.head _))))))))))
                  clear N9 NA
                  by_cases hlen : ss1.length < 20
                  · (repeat' (first | (k_unfold; (try dsimp only)) | ((fail_if_success (with_reducible show wpAny _ _ (call (Value.ref 669) _) _ _ _)); walk1)))
                    rename Fr _ _ _ _ => F10
                    rename News _ _ _ _ => N10
                    refine' Mine.lex_psrc hap hlp ?b1 F10 ?b3 ?b4 ?b5 ?b6 hI1.x hlen (hI1.o rfl) htx8 (Mine.nm_handed hnv8) hr8 (Mine.nd_perm D8 Mine.perm_in) (Mine.news_perm (Mine.news_tl (Mine.news_tl (Mine.news_tl N10))) Mine.perm_in) ?_
                    case b1 => k_asm
                    case b3 => k_asm
                    case b4 => k_asm
                    case b5 => k_room
                    case b6 => k_units
                    intro h11 c11 stk11 k11 F11 N11 D11 X11 S11
                    clear N10 F10
                    have NC := Mine.news_more N11 (x := (sa, _)) (List.mem_append_right _ (List.mem_append_right _ (.tail _ (.head _))))
                    clear N11
                    (repeat' (first | (k_unfold; (try dsimp only)) | ((fail_if_success (with_reducible show wpAny _ _ (call (Value.builtin "list.append") _) _ _ _)); walk1)))
                    rename Fr _ _ _ _ => F13
                    rename News _ _ _ _ => N13
                    refine append_K F13 (Mine.news_tl N13) (Mine.upd_sa D11) ?_ (by rw [PySem.sizeLine_eq, List.size_toArray]; omega)
                    intro h14 F14 N14
                    rw [List.push_toArray, ← List.reverse_cons] at N14
                    clear F13 N13
                    k_steps
                    rename Fr _ _ _ _ => F15
                    rename News _ _ _ _ => N15
                    refine' Mine.wf_at ⟨c11, stk11, ⟨.ref a8 :: v1.vs, ⟨nv8, 1, ws8, ld8⟩ :: v1.ss, (a8, W.listOf [nv8, .int 1 tl8, .ref wl8, .int ld8 tld8].toArray 0) :: (wl8, W.listOf vs8.toArray wk8) :: (tups8 ++ v1.l), v1.sk + 1⟩, pvs1, pk1, xs1, ⟨nv8, 1, ws8, ld8⟩ :: ss1, false, n8, ?tzD⟩ F15 (by (try dsimp only); rw [Mine.led5_app]; exact Mine.news_perm N15 Mine.perm_st) ?hk ⟨⟨⟨X11, ?hL, fun _ => by (try dsimp only); rw [S11]; exact hI1.o rfl⟩, by rw [Mine.led5_app]; exact Mine.nd_eq (Mine.nd_perm D11 Mine.perm_st) (by simp), ⟨hn8.1, by (try dsimp only); omega⟩, j3, by (try dsimp only); omega, by (try dsimp only); omega⟩, by show n8.toNat < n1.toNat; omega⟩
                    case hL => exact ⟨Mine.StackAt.cons a8 wl8 0 wk8 tl8 tld8 ⟨nv8, 1, ws8, ld8⟩ hw8 hI1.i.st, by (try dsimp only); rw [hI1.i.e], by simp, List.forall_mem_cons.mpr ⟨Mine.src_ok hnv8 hr8 hwn8 htx8, hI1.i.ok⟩, by simp only [List.length_cons]; omega, hI1.i.p, hI1.i.po, hI1.i.pn⟩
                    case hk =>
                      refine Mine.all6p (P := fun p : Str × Value => _ = some p.2) ?_ ?_ ?_ ?_ ?_ ?_
                      all_goals simp only [kstB, Mine.l4n1, Mine.l4n2, Mine.l4n3, Mine.l4n4, Mine.l4n5, Mine.l4n6, if_true, if_false] <;> rfl
                  · k_steps
                    rename Fr _ _ _ _ => F12
                    rename News _ _ _ _ => N12
                    refine' Mine.wf_at ⟨c1, stk1, v1, pvs1, pk1, xs1, ss1, false, n8, ?tzE⟩ F12 (by (try dsimp only); rw [Mine.led5_app]; exact fun p hp => N12 p (.tail _ (.tail _ (.tail _ (.tail _ (.tail _ (List.mem_append_right _ hp))))))) ?hk ⟨⟨⟨hI1.x, hI1.i, hI1.o⟩, by rw [Mine.led5_app]; exact hnd1, ⟨hn8.1, by (try dsimp only); omega⟩, j3, by (try dsimp only); omega, by (try dsimp only); omega⟩, by show n8.toNat < n1.toNat; omega⟩
                    case hk =>
                      refine Mine.all6p (P := fun p : Str × Value => _ = some p.2) ?_ ?_ ?_ ?_ ?_ ?_
                      all_goals simp only [kstB, Mine.l4n1, Mine.l4n2, Mine.l4n3, Mine.l4n4, Mine.l4n5, Mine.l4n6, if_true, if_false] <;> rfl
              · by_cases d7 : (n1 - 1).fmod 8 = 6
                · (repeat' (first | (k_unfold; (try dsimp only)) | ((fail_if_success (with_reducible show wpAny _ _ (compareOp CmpOp.Eq _ _) _ _ _)); walk1)))
                  refine Mine.eq_six (r := true) (by rw [d7]; rfl) ?_
                  (repeat' (first | (k_unfold; (try dsimp only)) | ((fail_if_success (with_reducible show wpAny _ _ (call (Value.builtin "len") _) _ _ _)); walk1)))
                  rename News _ _ _ _ => N9
                  have hvl : v1.vs.reverse.length = ss1.length := by rw [List.length_reverse, hI1.i.st.length, hI1.i.e]
                  have hs20 := hI1.i.n
                  dsimp only at hs20
                  refine Mine.len_few N9 (List.mem_append_right _ (List.mem_append_right _ (.tail _ (.head _)))) (by omega) ?_
                  rw [hvl]
                  by_cases hlen : 1 < ss1.length
                  · obtain ⟨vv, vss, vl, vk⟩ := v1
                    obtain ⟨⟨i1, i2, i3, i4, i5, i6, i7, i8⟩, iX, iO⟩ : Mine.LawI ⟨vv, vss, vl, vk⟩ pvs1 xs1 ss1 ∧ Mine.LexI w.params lx pb c1 stk1 xs1 ss1 ∧ (ov1 = false → ∃ t, c1.sv = .str (Str.ofString " ") t) := ⟨hI1.i, hI1.x, hI1.o⟩
                    dsimp only at i1 i2 N9 hnd1
                    subst i2
                    cases i1 with
                    | nil => exact absurd rfl i3
                    | @cons a9 wl9 ak9 wk9 t91 t92 t9 ws9 tups9 vs9 ss9 l9 q1 q2 =>
                    have hne9 : ss9 ≠ [] := by intro e; rw [e] at hlen; simp at hlen
                    have NA := Mine.news_more N9 (x := (dx, _)) (List.mem_append_left _ (.tail _ (.tail _ (.tail _ (.tail _ (.head _))))))
                    have NB := Mine.news_more NA (x := (lx, _)) (.tail _ (List.mem_append_left _ (.tail _ (.tail _ (.tail _ (.head _))))))
                    clear N9 NA
                    (repeat' (first | (k_unfold; (try dsimp only)) | ((fail_if_success (with_reducible show wpAny _ _ (call (Value.ref 676) _) _ _ _)); walk1)))
                    rename Fr _ _ _ _ => F10
                    rename News _ _ _ _ => N10
                    refine' Mine.lex_pop hap ?b1 F10 ?b3 ?b4 ?b5 ?b6 iX hne9 hnd1 (Mine.news_tl (Mine.news_tl N10)) ?_
                    case b1 => k_asm
                    case b3 => k_asm
                    case b4 => k_asm
                    case b5 => k_room
                    case b6 => k_units
                    intro h11 c11 stk11 k11 F11 N11 D11 X11 S11
                    clear N10 F10
                    rw [List.reverse_cons] at N11 D11
                    have NC := Mine.news_more N11 (x := (sa, _)) (List.mem_append_right _ (List.mem_append_right _ (.tail _ (.head _))))
                    clear N11
                    (repeat' (first | (k_unfold; (try dsimp only)) | ((fail_if_success (with_reducible show wpAny _ _ (call (Value.builtin "list.pop") _) _ _ _)); walk1)))
                    rename Fr _ _ _ _ => F13
                    rename News _ _ _ _ => N13
                    refine Mine.last_pop F13 (Mine.news_tl N13) (Mine.upd_sa D11) (by simp only [List.length_reverse, List.length_cons] at hvl hs20 ⊢; omega) ?_
                    intro h14 F14 N14
                    clear F13 N13
                    k_steps
                    rename Fr _ _ _ _ => F15
                    rename News _ _ _ _ => N15
                    refine' Mine.wf_at ⟨c11, stk11, ⟨vs9, ss9, l9, vk + 1⟩, pvs1, pk1, xs1, ss9, ov1, (n1 - 1).fdiv 8, ?tzF⟩ F15 (by (try dsimp only); rw [Mine.led5_app]; exact Mine.sub_pop N15) ?hk ⟨⟨⟨X11, ⟨q2, rfl, hne9, fun x hx => i4 x (.tail _ hx), show ss9.length ≤ 20 by have := i5; simp only [List.length_cons] at this; omega, i6, i7, i8⟩, fun _ => S11⟩, by rw [Mine.led5_app]; exact Mine.nd_eq (Mine.nd_spop D11) (by simp), ⟨f1.1, by (try dsimp only); omega⟩, j3, g1, by (try dsimp only); omega⟩, by show ((n1 - 1).fdiv 8).toNat < n1.toNat; omega⟩
                    case hk =>
                      refine Mine.all6p (P := fun p : Str × Value => _ = some p.2) ?_ ?_ ?_ ?_ ?_ ?_
                      all_goals simp only [kstB, Mine.l4n1, Mine.l4n2, Mine.l4n3, Mine.l4n4, Mine.l4n5, Mine.l4n6, if_true, if_false] <;> rfl
                  · k_steps
                    rename Fr _ _ _ _ => F12
                    rename News _ _ _ _ => N12
                    refine' Mine.wf_at ⟨c1, stk1, v1, pvs1, pk1, xs1, ss1, ov1, (n1 - 1).fdiv 8, ?tzG⟩ F12 (by (try dsimp only); rw [Mine.led5_app]; exact N12) ?hk ⟨⟨⟨hI1.x, hI1.i, hI1.o⟩, by rw [Mine.led5_app]; exact hnd1, ⟨f1.1, by (try dsimp only); omega⟩, j3, g1, by (try dsimp only); omega⟩, by show ((n1 - 1).fdiv 8).toNat < n1.toNat; omega⟩
                    case hk =>
                      refine Mine.all6p (P := fun p : Str × Value => _ = some p.2) ?_ ?_ ?_ ?_ ?_ ?_
                      all_goals simp only [kstB, Mine.l4n1, Mine.l4n2, Mine.l4n3, Mine.l4n4, Mine.l4n5, Mine.l4n6, if_true, if_false] <;> rfl
                · have NA := Mine.news_more N6 (x := (dx, _)) (List.mem_append_left _ (.tail _ (.tail _ (.tail _ (.tail _ (.head _))))))
                  have NB := Mine.news_more NA (x := (lx, _)) (.tail _ (List.mem_append_left _ (.tail _ (.tail _ (.tail _ (.head _))))))
                  clear N6 NA
                  have h1 : 0 ≤ ((n1 - 1).fdiv 8).fdiv 4 ∧ ((n1 - 1).fdiv 8).fdiv 4 ≤ (n1 - 1).fdiv 8 := by rw [Int.fdiv_eq_ediv_of_nonneg ((n1 - 1).fdiv 8) (by decide)]; omega
                  have h2 : 0 ≤ ((n1 - 1).fdiv 8).fmod 4 ∧ ((n1 - 1).fdiv 8).fmod 4 < 4 := ⟨Int.fmod_nonneg_of_pos _ (by decide), Int.fmod_lt_of_pos _ (by decide)⟩
                  (repeat' (first | (k_unfold; (try dsimp only)) | ((fail_if_success (with_reducible show wpAny _ _ (compareOp CmpOp.Eq _ _) _ _ _)); walk1)))
                  refine Mine.eq_six (r := false) (beq_eq_false_iff_ne.mpr d7) ?_
                  (repeat' (first | (k_unfold; (try dsimp only)) | ((fail_if_success (with_reducible show wpAny _ _ (call (Value.ref 661) _) _ _ _)); walk1)))
                  rename Fr _ _ _ _ => F10
                  rename News _ _ _ _ => N10
                  refine' Mine.lex_ptok hap hlp ?b1 F10 ?b3 ?b4 ?b5 ?b6 hI1.x (by (try dsimp only); omega) hnd1 (Mine.news_tl (Mine.news_tl (Mine.news_tl N10))) ?_
                  case b1 => k_asm
                  case b3 => k_asm
                  case b4 => k_asm
                  case b5 => k_room
                  case b6 => k_units
                  intro h11 c11 k11 F11 N11 D11 X11 S11
                  clear N10 F10
                  have hpl := hI1.i.p.length
                  have NC := Mine.news_more N11 (x := (pa, _)) (List.mem_append_right _ (List.mem_append_right _ (.head _)))
                  clear N11
                  (repeat' (first | (k_unfold; (try dsimp only)) | ((fail_if_success (with_reducible show wpAny _ _ (call (Value.builtin "list.insert") _) _ _ _)); walk1)))
                  rename Fr _ _ _ _ => F13
                  rename News _ _ _ _ => N13
                  refine Mine.lo_ins F13 (Mine.news_tl N13) (Mine.upd_pa D11) (by (try dsimp only at *); omega) ?_
                  intro h14 F14 N14
                  clear F13 N13
                  k_steps
                  rename Fr _ _ _ _ => F15
                  rename News _ _ _ _ => N15
                  refine' Mine.wf_at ⟨c11, stk1, v1, .str (Txt.item (Str.ofString "wxyz") (((n1 - 1).fdiv 8).fmod 4)) _ :: pvs1, pk1 + 1, Txt.item (Str.ofString "wxyz") (((n1 - 1).fdiv 8).fmod 4) :: xs1, ss1, ov1, ((n1 - 1).fdiv 8).fdiv 4, ?tzH⟩ F15 (by (try dsimp only); rw [Mine.led5_app]; exact N15) ?hk ⟨⟨⟨X11, ⟨hI1.i.st, hI1.i.e, hI1.i.ne, hI1.i.ok, hI1.i.n, .cons _ _ hI1.i.p, List.forall_mem_cons.mpr ⟨Mine.item_w h2.1 h2.2, hI1.i.po⟩, by (try dsimp only); rw [List.length_cons]; omega⟩, fun e => by (try dsimp only); rw [S11]; exact hI1.o e⟩, by rw [Mine.led5_app]; exact Mine.nd_eq D11 (by simp), ⟨h1.1, by (try dsimp only); omega⟩, j3, by (try dsimp only); omega, by (try dsimp only); rw [List.length_cons]; omega⟩, by show (((n1 - 1).fdiv 8).fdiv 4).toNat < n1.toNat; omega⟩
                  case hk =>
                    refine Mine.all6p (P := fun p : Str × Value => _ = some p.2) ?_ ?_ ?_ ?_ ?_ ?_
                    all_goals simp only [kstB, Mine.l4n1, Mine.l4n2, Mine.l4n3, Mine.l4n4, Mine.l4n5, Mine.l4n6, if_true, if_false] <;> rfl
          case mB =>
            clear F5 N6
            rintro s9 ⟨z9, h9, tk9, m9, rfl, F9, N9, hk9, ⟨hI9, hnd9, hn9, hj9⟩, hm9⟩
            have F10 := Mine.wf_fr hk9 F9
            dsimp only at N9
            rw [Mine.led5_app] at N9
            clear F9
            (repeat' (first | (k_unfold; (try dsimp only)) | ((fail_if_success (with_reducible show wpAny _ _ (call (Value.ref 747) _) _ _ _)); walk1)))
            rename Fr _ _ _ _ => F11
            refine' Mine.leads_all ?k1 F11 ?k3 ?k4 ?k5 ?k6 hI9.x hI9.i N9 ?_
            case k1 => k_asm
            case k3 => k_asm
            case k4 => k_asm
            case k5 => k_room
            case k6 => k_units
            intro h12 k12 F12 N12
            clear N9 F11
            k_steps
            exact Mine.wf_at z9 F12 (by rw [Mine.led5_app]; exact N12) Mine.ps6_6 ⟨⟨hI9, hnd9, hn9, hj9⟩, hm9⟩
        · k_steps
          exact Mine.wf_at ⟨c1, stk1, v1, pvs1, pk1, xs1, ss1, ov1, n1, tn1⟩ F4 N4 Mine.ps6_6 ⟨hI1, hnd1, by (try dsimp only); omega⟩
    case gD =>
      clear FP NP
      rintro m₁ nx h tk ⟨z, m', rfl, rfl, hz, hnd, hxl⟩ F N
      change Fr s1.heap s1.heap.objs.size _ _ at F
      change News s1.heap s1.heap.objs.size _ _ at N
      (repeat' (first | (k_unfold; (try dsimp only)) | ((fail_if_success (with_reducible show wpAny _ _ (call (Value.builtin "len") _) _ _ _)); walk1)))
      have hpl := hz.i.p.length
      have hpn := hz.i.pn
      have hvl : z.v.vs.reverse.length = z.ss.length := by rw [List.length_reverse, hz.i.st.length, hz.i.e]
      have hs20 := hz.i.n
      refine Mine.len_few N (k := z.pk) (vs := z.pvs) (List.mem_append_right _ (List.mem_append_right _ (.head _))) (by omega) ?_
      (repeat' (first | (k_unfold; (try dsimp only)) | ((fail_if_success (with_reducible show wpAny _ _ (eval (Expr.ListComp _ _ _ _) _) _ _ _)); walk1)))
      rename Fr _ _ _ _ => F2
      refine LCg.ListComp_U (F₀ := F2) (by with_unfolding_all rfl) (by decide) (by rfl) (by decide) (by rfl) ?_
      (repeat' (first | (k_unfold; (try dsimp only)) | ((fail_if_success (with_reducible show LCg.CompSrc _ _ _ _ _ _ _ _ _ _ _ _ _ _)); walk1)))
      refine LCg.CompSrc.ledger (its := z.v.vs.reverse.toArray) (k := z.v.sk) (by rfl) F2 N (List.mem_append_right _ (List.mem_append_right _ (.tail _ (.head _)))) (by rw [PySem.sizeLine_eq, List.size_toArray]; omega) ?_
      intro g2'
      refine Mine.comp_stK (Mine.led5 w.params LT1 b ev2 pb lx dx fs sa pa z) (.inr ⟨_, List.mem_append_right _ (List.mem_append_right _ (.tail _ (.head _))), rfl, _, rfl⟩) Mine.PS ⟨[], .nil, rfl, by simp⟩ ?_ ?_
      · rintro i ys v I oI C oC D m₂ h tk E' hi hP hv hC hx F8 N8 off ne
        have hvm : v ∈ z.v.vs := by
          have := Array.mem_of_getElem? hv
          simpa using this
        obtain ⟨a9, wl9, ak9, wk9, t91, t92, c9, ws9, rfl, m1, m2, hl9⟩ := Mine.stack_mem hz.i.st (by rw [hz.i.e]; exact hz.i.ok) hvm
        have NA := Mine.news_more N8 (x := (wl9, _)) (.tail _ (.tail _ (.tail _ (List.mem_append_right _ (List.mem_append_right _ (.tail _ (.tail _ m2)))))))
        have NB := Mine.news_more NA (x := (a9, _)) (.tail _ (.tail _ (.tail _ (.tail _ (List.mem_append_right _ (List.mem_append_right _ (.tail _ (.tail _ m1))))))))
        (repeat' (first | (k_unfold; (try dsimp only)) | ((fail_if_success (with_reducible show wpAny _ _ (call (Value.builtin "len") _) _ _ _)); walk1)))
        refine Mine.len_few NB (.tail _ (.head _)) (by omega) ?_
        exact ⟨(), _, _, rfl, F8, N8, Mine.ps_step hP hl9⟩
      · rintro ys ⟨ns9, hi9, hl9, hb9⟩
        intro D4 h14 tk14 F14 N14 o14
        (repeat' (first | (k_unfold; (try dsimp only)) | ((fail_if_success (with_reducible show wpAny _ _ (call (Value.builtin "sum") _) _ _ _)); walk1)))
        clear o14 N F2
        refine PyProof.Rows.LSm.sum_ints F14 N14 rfl ⟨_, N14.get (.head _), rfl, _, rfl⟩ hi9 ?_
        intro h15 tk15 t15 F15 N15
        clear F14 N14
        have hsm := Mine.ps_sum hb9
        rw [hl9, List.size_toArray] at hsm
        (repeat' (first | (k_unfold; (try dsimp only)) | ((fail_if_success (with_reducible show wpAny _ _ (pyIter _) _ _ _)); walk1)))
        rename IsRange _ _ _ _ _ _ _ _ => hR
        rename Fr _ _ _ _ => F16
        rename News _ _ _ _ => N16
        obtain ⟨q9, hq9⟩ := Int.eq_ofNat_of_zero_le (show 0 ≤ (z.pvs.length : Int) + ns9.sum + 2 by omega)
        rw [hq9] at hR
        refine Mine.range_free (Mine.J7 w.params LT1 b ev2 endv pb lx dx fs sa pa) rfl hR (small_one (by omega) (by omega) (by omega) (by omega)) (rangeSize_nat _ _) F16 (Mine.news_tl N16) (Mine.j7_mk z F16 ?hk hz.x hz.i hnd) ?tT ?tD
        case hk =>
          refine Mine.all5p (P := fun p : Str × Value => _ = some p.2) ?_ ?_ ?_ ?_ ?_
          all_goals simp only [kstB, Mine.l4n2, Mine.l4n3, Mine.l4n4, Mine.l4n5, Mine.l4n6, if_true, if_false]
        case tT =>
          clear F16 N16
          rintro i t m₁ nx h tk I oI hi ⟨z2, m2', rfl, rfl, hx2, hi2', hnd2⟩ hadr F N
          change Fr s1.heap s1.heap.objs.size _ _ at F
          change News s1.heap s1.heap.objs.size _ _ at N
          have hnd3 := Mine.nd_one_r (oI := oI) hnd2 hadr
          rw [Mine.led5_app] at N hnd3
          (repeat' (first | (k_unfold; (try dsimp only)) | ((fail_if_success (with_reducible show wpAny _ _ (call (Value.ref 683) _) _ _ _)); walk1)))
          rename Fr _ _ _ _ => F10
          rename News _ _ _ _ => N10
          refine' Mine.lex_next hap hlp hev2 ?q1 F10 ?q3 ?q4 ?q5 ?q6 hx2 hnd3 N10 ?_
          case q1 => k_asm
          case q3 => k_asm
          case q4 => k_asm
          case q5 => k_room
          case q6 => k_units
          intro h11 v11 c11 stk11 k11 F11 N11 D11 X11 T11 S11 W11
          clear N10 F10
          (repeat' (first | (k_unfold; (try dsimp only)) | ((fail_if_success (with_reducible show wpAny _ _ (call (Value.ref 740) _) _ _ _)); walk1)))
          rename Fr _ _ _ _ => F7
          rename News _ _ _ _ => N7
          refine' Mine.law_next ?k1 F7 ?k3 ?k4 ?k5 ?k6 hi2' (Mine.rot_nd D11) (Mine.rot_news N7) ?_
          case k1 => k_asm
          case k3 => k_asm
          case k4 => k_asm
          case k5 => k_room
          case k6 => k_units
          intro h8 v8 v8' pvs8 pk8 k8 F8 N8 D8 L8 T8
          have N9 := Mine.rot_back N8
          have D9 := Mine.rot_ndb D8
          clear F7 N7 N8 D8
          (repeat' (first | (k_unfold; (try dsimp only)) | ((fail_if_success (with_reducible show wpAny _ _ (compareOp CmpOp.NotEq _ _) _ _ _)); walk1)))
          refine Mine.ne_vt T11 T8 hev2 hend ?_
          (repeat' (first | (k_unfold; (try dsimp only)) | ((fail_if_success (with_reducible show wpAny _ _ (call (Value.ref 747) _) _ _ _)); walk1)))
          rename Fr _ _ _ _ => F12
          rename News _ _ _ _ => N12
          refine' Mine.leads_all ?l1 F12 ?l3 ?l4 ?l5 ?l6 X11 L8 N12 ?_
          case l1 => k_asm
          case l3 => k_asm
          case l4 => k_asm
          case l5 => k_room
          case l6 => k_units
          intro h13 k13 F13 N13
          clear N12 F12
          k_steps
          refine' Mine.j7_end ⟨c11, stk11, v8', pvs8, pk8, (Mine.nextX z2.xs z2.ss).2.1, (Mine.nextX z2.xs z2.ss).2.2, z2.ov, 0, 0⟩ F13 (by rw [Mine.led5_app]; exact N13) ?hk X11 L8 (by rw [Mine.led5_app]; exact D9)
          case hk =>
            refine Mine.all5p (P := fun p : Str × Value => _ = some p.2) ?_ ?_ ?_ ?_ ?_
            all_goals simp only [kstB, Mine.l4n2, Mine.l4n3, Mine.l4n4, Mine.l4n5, Mine.l4n6, if_true, if_false]
        case tD =>
          clear F16 N16
          rintro m₁ nx h tk ⟨z2, m2', rfl, rfl, hx2, hi2', hnd2⟩ F N
          k_steps
theorem PySem.Challenge.cw_kq0019_04_holds : PySem.Challenge.rw_kq0019_04.Holds := by
  exact Mine.law_all


