import PyProof.Rows.All
import Wide.All
import OpenK.AllK
import Wide.FinOn
import Lean
import PySem.Challenge.RW_kt0074_01
open PySem PySem.W PyProof.Rows PySem.Calls
set_option Elab.async false
set_option maxRecDepth 100000
set_option maxHeartbeats 8000000
open_top hd for PySem.Challenge.rw_kt0074_01
namespace Mine
theorem fill_all (P : Params) : (∃ x : OpenLaw, x = PySem.Challenge.rw_kt0074_01) ∧ hd.heap_39 P = hd.heap_39 P := by
  k_fill
  exact ⟨⟨_, rfl⟩, rfl⟩
abbrev PG : PySem.Program := PySem.Challenge.rw_kt0074_01.row.prog
noncomputable abbrev KK (w : World) : Frag := hd.heap_39 w.params

theorem units_under_make (A : Around) (C : Addr) (vals : List Value) (kw : List (Str × Value)) : (A.under (.builtin "type.__call__" ⟨.ref C :: vals, kw⟩)).units = A.units + 1 := rfl
section
variable {w : World} {A : Around} {R : Result → Shared → Prop} {h : Heap} {g : Array GenState} {d : Drawn} {t : Nat} {os : OsState}

theorem sio_typ (X : (hd.heap_39 w.params).In h) : Looks (model PG w) h (isInstance (.ref 636) (.type "type")) true := Looks.of_peek X (by kernel_rfl)
theorem sio_call (X : (hd.heap_39 w.params).In h) : Looks (model PG w) h (specialOf (.ref 636) "__call__") (some (.builtin "type.__call__")) := Looks.of_peek X (by kernel_rfl)
theorem sio_made (X : (hd.heap_39 w.params).In h) : Looks (model PG w) h (Bind.madeBy (.ref 636)) none := Looks.of_peek X (by kernel_rfl)
theorem sio_base (X : (hd.heap_39 w.params).In h) : Looks (model PG w) h (Bind.staticBase (.ref 636)) (.type "object") := Looks.of_peek X (by kernel_rfl)
theorem sio_mbase (X : (hd.heap_39 w.params).In h) : Looks (model PG w) h (Bind.madeBy (.type "object")) (some "object.__new__") := Looks.of_peek X (by kernel_rfl)
theorem sio_self (X : (hd.heap_39 w.params).In h) : Looks (model PG w) h (isSubtype (.ref 636) (.ref 636)) true := Looks.of_peek X (by kernel_rfl)
theorem sio_top (X : (hd.heap_39 w.params).In h) : Looks (model PG w) h (isSubtype (.ref 636) (.type "object")) true := Looks.of_peek X (by kernel_rfl)
theorem sio_mro (X : (hd.heap_39 w.params).In h) : Looks (model PG w) h (mroOf (.ref 636)) [.ref 636, .ref 159, .ref 132, .type "object"] := Looks.of_peek X (by kernel_rfl)
theorem sio_init (X : (hd.heap_39 w.params).In h) : Looks (model PG w) h (typeLookup (.ref 636) "__init__") (some (.ref 406)) := Looks.of_peek X (by kernel_rfl)



theorem sio_obj (X : (hd.heap_39 w.params).In h) : ∃ oc od cd sl, h.get? 636 = some ⟨oc, od, .cls cd, sl⟩ ∧ cd.abstract = false ∧ cd.hasDel = false ∧ cd.mro.isEmpty = false := ⟨_, _, _, _, X _ _ (by k_is), rfl, rfl, rfl⟩
theorem new636_code (X : (hd.heap_39 w.params).In h)
    (hq : R (.ok (.ret (.ref (h.objs.size + 1)))) ⟨(h.push emptyDict).push (instObj 636 h.objs.size), g, d, t, os⟩) :
    codeAny (model PG w) A (.call (.builtin "object.__new__") ⟨[.ref 636], []⟩) R ⟨h, g, d, t, os⟩ := by
  have made := sio_mbase X
  have base := sio_base X
  have top := sio_top X
  have typ := sio_typ X
  obtain ⟨oc, od, cd, sl, hC, e1, e2, e4⟩ := sio_obj X
  have F := PySem.F.objNew
  refine codeAny_call_builtin_code (Code.quiet_builtin _ F.quiet) ?_
  simp only [checkBuiltinCall, F.kind, F.split, F.row]
  have here : Looks (model PG w) h (Bind.madeHere "object.__new__" (.ref 636)) () := base.andThen (made.andThen (Looks.of_pure (by simp only [Option.map_some, bne_self_eq_false, Bool.false_eq_true, if_false])))
  have args : Bind.checkArgs "object.__new__" ⟨.hand, "object.__new__", "__new__", .cls, []⟩ ⟨[.ref 636], []⟩ = pure () := by kernel_rfl
  rw [args]
  repeat (first | simp only [bne_self_eq_false, Bool.false_eq_true, if_false] | lk)
  refine codeAny_builtin F.entry ?_
  unfold Builtin.«object.__new__»
  have hC' := Heap.get?_push_of_some (instObj 636 (h.push emptyDict).objs.size.pred) (Heap.get?_push_of_some emptyDict hC)
  have hC2 : ((h.push emptyDict).push (instObj 636 h.objs.size)).get? 636 = _ := Heap.get?_push_of_some _ (Heap.get?_push_of_some _ hC)
  repeat (first | simp only [e1, e2, Bool.false_eq_true, if_false] | lk)
  rw [Heap.size_push]
  exact hq

section
variable {h₀ : Heap} {L : Addr} {m : Str → Option Value} {news : List (Addr × Obj)} {s : Shared} {Q E : Value → Shared → Prop}
theorem new636 (F : Fr h₀ L s.heap m) (X₀ : (hd.heap_39 w.params).In h₀) (N : News h₀ L s.heap news)
    (h : ∀ x dx h', Fr h₀ L h' m → News h₀ L h' ((x, instObj 636 dx) :: (dx, dictOf [] 0) :: news) → (∀ p ∈ news, p.1 < dx) → dx < x → Q (.ref x) { s with heap := h' }) :
    wpAny (model PG w) A (call (.builtin "object.__new__") [.ref 636] []) Q E s := by
  obtain ⟨hh, g, d, t, os⟩ := s
  refine wpAny_call (new636_code (X₀.keeps F.keep) ?_)
  have N' := (N.push F emptyDict).push (F.push _) (instObj 636 hh.objs.size)
  rw [Heap.size_push] at N'
  exact h _ hh.objs.size _ ((F.push _).push _) N' (fun p hp => Heap.lt_size (N p hp).1) (Nat.lt_succ_self _)
end
end

def SioMade (w : World) (A : Around) (rest : List Value) (R : Result → Shared → Prop) (obj : Value) (s : Shared) : Prop :=
  ∃ x dx, obj = .ref x ∧ s.heap.get? x = some (instObj 636 dx) ∧ (hd.heap_39 w.params).In s.heap ∧ codeAny (model PG w) A (.call (.ref 406) ⟨.ref x :: rest, []⟩) (InitBack x R) s

theorem sio_make {w : World} {A : Around} {R : Result → Shared → Prop} {s : Shared} {rest : List Value} (X : (hd.heap_39 w.params).In s.heap)
    (h : wpAny (model PG w) (A.under (.builtin "type.__call__" ⟨.ref 636 :: rest, []⟩)) (getAttr (.ref 636) "__new__") (fun new s1 => wpAny (model PG w) (A.under (.builtin "type.__call__" ⟨.ref 636 :: rest, []⟩)) (call new (.ref 636 :: rest) []) (SioMade w (A.under (.builtin "type.__call__" ⟨.ref 636 :: rest, []⟩)) rest R) (fun e s' => R (.error e) s') s1) (fun e s' => R (.error e) s') s) :
    codeAny (model PG w) A (.call (.ref 636) ⟨rest, []⟩) R s := by
  obtain ⟨hh, g, d, t, os⟩ := s
  have made := sio_made X
  have typ := sio_typ X
  have call' := sio_call X
  obtain ⟨oc, od, cd, sl, hC, e1, e2, e4⟩ := sio_obj X
  have hm := sio_mro X
  refine codeAny_of_tree ?_
  show wpAny _ _ (callAny (.ref 636) _) _ _ _
  refine nd_load hC ?_
  show wpAny _ _ (callAny.viaDunder (.ref 636) _) _ _ _
  unfold callAny.viaDunder
  refine wpAny_bind (call'.at ?_)
  dsimp only
  rw [tc_bind]
  refine wpAny_bind (wpAny_pure (wpAny_bind (wpAny_pure ?_)))
  refine wpAny_pure (a := Fin.again (.call (.builtin "type.__call__") ⟨.ref 636 :: rest, []⟩)) (And.intro rfl ?_)
  refine codeAny_call_builtin_at (Code.quiet_builtin _ (by decide +kernel)) entry_typeCall (check_slot tc_kind tc_split typ (tc_args _ _ _) ?_)
  unfold Builtin.«type.__call__»
  dsimp only
  refine wpAny_bind (hm.at ?_)
  simp only [List.isEmpty_cons, Bool.false_eq_true, if_false]
  refine wpAny_bind (made.at ?_)
  dsimp only
  refine wpAny_bind (wpAny_mono h (fun new s1 h1 => ?_) fun _ _ z => z)
  refine wpAny_bind (wpAny_holding (wpAny_mono h1 (fun obj s2 h2 => ?_) fun _ _ z => z))
  obtain ⟨x, dx, rfl, hx, X2, hc⟩ := h2
  obtain ⟨hh2, g2, d2, t2, os2⟩ := s2
  have t1 : Looks (model PG w) hh2 (typeOf (.ref x)) (.ref 636) := (Looks.ld hx).andThen .now
  have s1 := sio_self X2
  have i1 := sio_init X2
  have b1 : Looks (model PG w) hh2 (bindSpecial (.ref 406) (.ref x)) (.ref 406, [.ref x]) := bind_fn X2 (.ref x) (by k_is)
  unfold isInstance callSpecial? specialOf
  repeat (first | with_reducible refine wpAny_call ?_ | lk)
  refine codeAny_mono hc fun r s' z => ?_
  rcases r with e | (v | _ | _ | _) <;> first | exact z | exact z.elim | skip
  obtain ⟨rfl, z⟩ := z
  exact wpAny_pure (wpAny_pure z)

theorem sioMade_of {w : World} {A : Around} {R : Result → Shared → Prop} {s : Shared} {rest : List Value} {h₀ : Heap} {L x dx : Addr} {m : Str → Option Value} {news : List (Addr × Obj)}
    (F : Fr h₀ L s.heap m) (X : (hd.heap_39 w.params).In h₀) (N : News h₀ L s.heap news) (hm : (x, instObj 636 dx) ∈ news)
    (h : codeAny (model PG w) A (.call (.ref 406) ⟨.ref x :: rest, []⟩) (InitBack x R) s) : SioMade w A rest R (.ref x) s :=
  ⟨x, dx, rfl, (N _ hm).1, X.keeps F.keep, h⟩
abbrev dqT : String := "collections.deque"
theorem dq_mro : mroOf (.type "collections.deque") = pure [.type "collections.deque", .type "object"] := by rw [mroOf_type]; kernel_rfl
theorem dq_new : typeLookup (.type "collections.deque") "__new__" = pure (some (.builtin "collections.deque.__new__")) := by rw [typeLookup_type, builtinLookup_eq_fast]; kernel_rfl
theorem dq_sub : isSubtype (.type "collections.deque") (.type "collections.deque") = pure true := by rw [isSubtype_type]; kernel_rfl
theorem dq_slot_init : Slot "collections.deque" "__init__" "collections.deque.__init__" :=
  .of (owner := "collections.deque") (n := "__init__") (by rw [typeLookup_type, builtinLookup_eq_fast]; kernel_rfl) (by decide +kernel) (by decide +kernel) (by decide +kernel)
    (by first | exact .inl (by decide +kernel) | exact .inr (by decide +kernel)) dq_sub
theorem dq_called : TypeCalled "collections.deque" "collections.deque.__new__" "collections.deque.__init__" :=
  ⟨by decide +kernel, by decide +kernel, ⟨_, _, dq_mro⟩, madeBy_type dq_mro dq_new (by decide +kernel), by decide +kernel, dq_sub, dq_slot_init⟩
theorem dq_typeCall : checkTypeCall "collections.deque" ⟨[], []⟩ = pure () := by kernel_rfl
theorem dq_newCall : checkBuiltinCall "collections.deque.__new__" ⟨[.type "collections.deque"], []⟩ = pure () := by kernel_rfl
theorem dq_entry_new : entryFor table "collections.deque.__new__" = some Builtin.«collections.deque.__new__» := entryFor_of_tree (by kernel_rfl)
theorem dq_entry_init : entryFor table "collections.deque.__init__" = some Builtin.«collections.deque.__init__» := entryFor_of_tree (by kernel_rfl)
theorem dq_plain_new : plainId "collections.deque.__new__" = true := by decide +kernel
theorem dq_init_ok (a : Value) : argsOk "collections.deque.__init__" ⟨[a], []⟩ := by unfold argsOk; kernel_rfl

def dqObj (vs : List Value) (n : Int) : Obj := { cls := .type "collections.deque", data := .fields (#[.none, rawInt n] ++ vs.toArray) }

section
variable {prog : Program} {w : World} {A : Around} {E : Value → Shared → Prop} {s : Shared}
theorem dq_code_new {Q₁ : Value → Shared → Prop}
    (h : Q₁ (.ref s.heap.objs.size) { s with heap := s.heap.push (dqObj [] 0) }) :
    codeAny (model prog w) A (.call (.builtin "collections.deque.__new__") ⟨[.type "collections.deque"], []⟩) (wants Q₁ E) s := by
  refine codeAny_call_builtin dq_plain_new dq_entry_new (wpAny_of_eq dq_newCall ?_)
  obtain ⟨hp, g, d, tk, os⟩ := s
  have L1 : Looks (model prog w) hp (isSubtype (.type "collections.deque") (.type Builtin.Deque.ty)) true := Looks.of_pure dq_sub
  have hd : typeHasDict (.type "collections.deque") = false := by decide +kernel
  unfold Builtin.«collections.deque.__new__» Builtin.Deque.newArgs Builtin.Deque.new
  repeat (first | simp only [hd, Bool.false_eq_true, if_false] | lk)
  exact h

theorem dq_init_body {q : Addr} {P : Fin → Shared → Prop} (hq : s.heap.get? q = some (dqObj [] 0))
    (h : P (.done (.ret .none)) { s with heap := s.heap.update q (Obj.mapFields (·.setIfInBounds 0 .none)) }) :
    wpAny (model prog w) A (Builtin.«collections.deque.__init__» ⟨[.ref q], []⟩) P E s := by
  obtain ⟨hp, g, d, tk, os⟩ := s
  have hf0 : hp.get? q = some { cls := .type "collections.deque", data := .fields #[.none, rawInt 0] } := hq
  have hf2 : (hp.update q (Obj.mapFields (·.setIfInBounds 0 .none))).get? q = some { cls := .type "collections.deque", data := .fields #[.none, rawInt 0] } := by
    rw [Heap.get?_update_self _ hf0 rfl]; rfl
  unfold Builtin.«collections.deque.__init__»
  repeat lk
  refine wpAny_update hf0 ?_
  dsimp only
  repeat lk
  exact h

section
variable {h₀ : Heap} {L : Addr} {m : Str → Option Value} {news : List (Addr × Obj)} {Q : Value → Shared → Prop}
theorem dq_make (F : Fr h₀ L s.heap m) (N : News h₀ L s.heap news)
    (h : ∀ q h', Fr h₀ L h' m → News h₀ L h' ((q, dqObj [] 0) :: news) → (∀ p ∈ news, p.1 < q) → Q (.ref q) { s with heap := h' }) :
    wpAny (model prog w) A (call (.type "collections.deque") []) Q E s := by
  have F1 := F.push (dqObj [] 0)
  have N1 := N.push F (dqObj [] 0) rfl
  refine callType_codes (Q₁ := fun obj s₁ => obj = .ref s.heap.objs.size ∧ s₁ = { s with heap := s.heap.push (dqObj [] 0) }) dq_called dq_typeCall dq_entry_init (dq_code_new ⟨rfl, rfl⟩) ?_
  rintro obj s₁ ⟨rfl, rfl⟩
  have hq : (s.heap.push (dqObj [] 0)).get? s.heap.objs.size = some (dqObj [] 0) := (N1 _ (.head _)).1
  refine ⟨⟨_, hq, rfl⟩, dq_init_ok _, ?_⟩
  have lt : ∀ p ∈ news, p.1 < s.heap.objs.size := fun p hp => Heap.lt_size (N p hp).1
  obtain ⟨F2, N2⟩ := news_upd (pre := []) (post := news) (f := Obj.mapFields (·.setIfInBounds 0 .none)) (o' := dqObj [] 0) F1 N1 (fun _ h => nomatch h) (fun p hp => Nat.ne_of_lt (lt p hp)) rfl rfl
  exact dq_init_body (s := { s with heap := s.heap.push (dqObj [] 0) }) hq ⟨rfl, h _ _ F2 N2 lt⟩
end
end
theorem dq_plain : PlainAttrs "collections.deque" :=
  ⟨⟨"collections.deque.__getattribute__", by rw [typeLookup_type, builtinLookup_eq_fast]; kernel_rfl, by decide +kernel⟩, by rw [typeLookup_type, builtinLookup_eq_fast]; kernel_rfl⟩
theorem dq_noBool : typeLookup (.type "collections.deque") "__bool__" = pure none := by rw [typeLookup_type, builtinLookup_eq_fast]; kernel_rfl
theorem dq_slot_len : Slot "collections.deque" "__len__" "collections.deque.__len__" :=
  .of (owner := "collections.deque") (n := "__len__") (by rw [typeLookup_type, builtinLookup_eq_fast]; kernel_rfl) (by decide +kernel) (by decide +kernel) (by decide +kernel)
    (by first | exact .inl (by decide +kernel) | exact .inr (by decide +kernel)) dq_sub
theorem dq_slot_pl : Slot "collections.deque" "popleft" "collections.deque.popleft" :=
  .of (owner := "collections.deque") (n := "popleft") (by rw [typeLookup_type, builtinLookup_eq_fast]; kernel_rfl) (by decide +kernel) (by decide +kernel) (by decide +kernel)
    (by first | exact .inl (by decide +kernel) | exact .inr (by decide +kernel)) dq_sub
theorem dq_slot_al : Slot "collections.deque" "appendleft" "collections.deque.appendleft" :=
  .of (owner := "collections.deque") (n := "appendleft") (by rw [typeLookup_type, builtinLookup_eq_fast]; kernel_rfl) (by decide +kernel) (by decide +kernel) (by decide +kernel)
    (by first | exact .inl (by decide +kernel) | exact .inr (by decide +kernel)) dq_sub
theorem dq_type_pl : typeOf (.builtin "collections.deque.popleft") = pure (.type "method_descriptor") := by show builtinType _ = _; rw [builtinType_eq_fast]; kernel_rfl
theorem dq_type_al : typeOf (.builtin "collections.deque.appendleft") = pure (.type "method_descriptor") := by show builtinType _ = _; rw [builtinType_eq_fast]; kernel_rfl
theorem dq_entry_len : entryFor table "collections.deque.__len__" = some Builtin.«collections.deque.__len__» := entryFor_of_tree (by kernel_rfl)
theorem dq_entry_pl : entryFor table "collections.deque.popleft" = some Builtin.«collections.deque.popleft» := entryFor_of_tree (by kernel_rfl)
theorem dq_entry_al : entryFor table "collections.deque.appendleft" = some Builtin.«collections.deque.appendleft» := entryFor_of_tree (by kernel_rfl)
theorem dq_args_len (a : Value) : argsOk "collections.deque.__len__" ⟨[a], []⟩ := by unfold argsOk; kernel_rfl
theorem dq_args_pl (a : Value) : argsOk "collections.deque.popleft" ⟨[a], []⟩ := by unfold argsOk; kernel_rfl
theorem dq_args_al (a b : Value) : argsOk "collections.deque.appendleft" ⟨[a, b], []⟩ := by unfold argsOk; kernel_rfl
section
variable {prog : Program} {w : World} {A : Around} {E : Value → Shared → Prop} {s : Shared} {q : Addr} {vs : List Value} {n : Int}
theorem dq_typeIs (hq : s.heap.get? q = some (dqObj vs n)) : s.TypeIs (.ref q) "collections.deque" := ⟨_, hq, rfl⟩
theorem dq_len_body {Q : Value → Shared → Prop} (hq : s.heap.get? q = some (dqObj vs n)) (hfit : (vs.length : Int) < 2 ^ 63)
    (h : Q (.int vs.length (s.toks + 1)) { s with toks := s.toks + 1 + 1 }) : wpAny (model prog w) A (Builtin.«len» ⟨[.ref q], []⟩) (fun fin s' => ∃ r, fin = .done (.ret r) ∧ Q r s') E s := by
  unfold Builtin.«len»
  refine wpAny_bind (m := oneArg "len" _) (wpAny_pure ?_)
  refine wpAny_bind (m := callSpecial? (.ref q) (Str.ofString "__len__")) (wpAny_callSpecial?_slot (name := Str.ofString "__len__") (dq_typeIs hq) dq_slot_len
    (wpAny_call_entry dq_slot_len (dq_typeIs hq) dq_entry_len ?_ (dq_args_len _)))
  · have e : ((#[Value.none, rawInt n] ++ vs.toArray).size - 2 : Nat) = vs.length := by simp
    obtain ⟨hh, g, d, t, os⟩ := s
    have hq' : hh.get? q = some { cls := .type "collections.deque", data := .fields (#[.none, rawInt n] ++ vs.toArray) } := hq
    unfold Builtin.«collections.deque.__len__» Builtin.Deque.size
    refine wpAny_bind (m := slotArgs "__len__" 0 _) (wpAny_pure ?_)
    dsimp only
    refine wpAny_bind (wpAny_bind ?_)
    unfold fieldsOf
    dsimp only
    refine wpAny_bind (wpAny_load hq' (wpAny_pure (wpAny_pure ?_)))
    rw [e]
    refine wpAny_bind (wpAny_mkInt (wpAny_pure ⟨_, rfl, ?_⟩))
    refine wpAny_bind (wpAny_holding (wpAny_pure ?_))
    refine wpAny_bind (wpAny_letGo ?_)
    show wpAny _ _ (if ((vs.length : Nat) : Int) < 0 then _ else _) _ _ _
    rw [if_neg (by omega)]
    show wpAny _ _ (if ((vs.length : Nat) : Int) ≥ 2 ^ 63 then _ else _) _ _ _
    rw [if_neg (by omega)]
    exact wpAny_bind (wpAny_mkInt (wpAny_pure ⟨_, rfl, h⟩))

theorem dq_truthy {Q : Bool → Shared → Prop} (hq : s.heap.get? q = some (dqObj vs n)) (hfit : (vs.length : Int) < 2 ^ 63)
    (h : Q ((vs.length : Int) != 0) { s with toks := s.toks + 1 + 1 }) : wpAny (model prog w) A (truthy (.ref q)) Q E s := by
  have key : wpAny (model prog w) A (runValue (.builtin "len" ⟨[.ref q], []⟩)) (fun r s' => r = .int vs.length (s.toks + 1) ∧ Q ((vs.length : Int) != 0) s') E s := by
    refine wpAny_runValue (codeAny_builtin entry_len ?_)
    rw [Around.under_plainId plain_len _]
    exact wpAny_mono (dq_len_body (Q := fun r s' => r = .int vs.length (s.toks + 1) ∧ Q ((vs.length : Int) != 0) s') hq hfit ⟨rfl, h⟩)
      (fun fin s' h' => by obtain ⟨r, rfl, hq⟩ := h'; exact hq) fun _ _ e => e
  unfold truthy
  first
    | refine wpAny_bind (wpAny_callSpecial?_none (name := Str.ofString "__bool__") (dq_typeIs hq) dq_noBool ?_)
    | refine wpAny_bind (wpAny_pure (wpAny_bind (wpAny_callSpecial?_none (name := Str.ofString "__bool__") (dq_typeIs hq) dq_noBool ?_)))
  first
    | refine wpAny_bind (wpAny_specialOf (name := Str.ofString "__len__") (dq_typeIs hq) dq_slot_len.lookup ?_)
    | refine wpAny_bind (wpAny_pure (wpAny_bind (wpAny_specialOf (name := Str.ofString "__len__") (dq_typeIs hq) dq_slot_len.lookup ?_)))
  first
    | exact wpAny_bind (wpAny_mono key (fun r s' h' => by obtain ⟨rfl, hq⟩ := h'; exact wpAny_pure hq) fun _ _ e => e)
    | exact wpAny_bind (wpAny_pure (wpAny_bind (wpAny_mono key (fun r s' h' => by obtain ⟨rfl, hq⟩ := h'; exact wpAny_pure hq) fun _ _ e => e)))

theorem dq_meth_pl {pl : Sem Bool} {Q : Value × List Value → Shared → Prop} (hq : s.heap.get? q = some (dqObj vs n)) (h : Q (.builtin "collections.deque.popleft", [.ref q]) s) :
    wpAny (model prog w) A (getMethod (.ref q) "popleft" pl) Q E s :=
  getMethod_builtin (dq_typeIs hq) dq_plain dq_slot_pl dq_type_pl (fun a e => by cases e; exact ⟨_, hq, rfl⟩) h
theorem dq_meth_al {pl : Sem Bool} {Q : Value × List Value → Shared → Prop} (hq : s.heap.get? q = some (dqObj vs n)) (h : Q (.builtin "collections.deque.appendleft", [.ref q]) s) :
    wpAny (model prog w) A (getMethod (.ref q) "appendleft" pl) Q E s :=
  getMethod_builtin (dq_typeIs hq) dq_plain dq_slot_al dq_type_al (fun a e => by cases e; exact ⟨_, hq, rfl⟩) h

abbrev dqF (f : Array Value → Array Value) (n : Int) (vs : Array Value) : Array Value := #[vs.getD 0 .none, rawInt n] ++ f (vs.extract 2 vs.size)

theorem dq_pl_obj (v : Value) (n : Int) : Obj.mapFields (fun vs => #[vs.getD 0 .none, rawInt (n + 1)] ++ (vs.extract 2 vs.size).eraseIdxIfInBounds 0) (dqObj [v] n) = dqObj [] (n + 1) := by
  simp [dqObj, Obj.mapFields, Array.eraseIdxIfInBounds]
theorem dq_al_obj (v : Value) (n : Int) : Obj.mapFields (fun vs => #[vs.getD 0 .none, rawInt (n + 1)] ++ (#[v] ++ vs.extract 2 vs.size)) (dqObj [] n) = dqObj [v] (n + 1) := by
  simp [dqObj, Obj.mapFields]
section
variable {h₀ : Heap} {L : Addr} {m : Str → Option Value} {news news' : List (Addr × Obj)} {Q : Value → Shared → Prop} {v : Value}
theorem dq_call_pl (F : Fr h₀ L s.heap m) (N : News h₀ L s.heap news) (U : Upd q (dqObj [v] n) (dqObj [] (n + 1)) news news')
    (h : ∀ h', Fr h₀ L h' m → News h₀ L h' news' → Q v { s with heap := h' }) :
    wpAny (model prog w) A (call (.builtin "collections.deque.popleft") [.ref q]) Q E s := by
  obtain ⟨pre, post, rfl, rfl, h1, h2⟩ := U.split
  have hq := (N (q, dqObj [v] n) (by simp)).1
  obtain ⟨F2, N2⟩ := news_upd (f := Obj.mapFields (fun vs => #[vs.getD 0 .none, rawInt (n + 1)] ++ (vs.extract 2 vs.size).eraseIdxIfInBounds 0)) F N h1 h2 (dq_pl_obj v n) rfl
  refine wpAny_call_entry dq_slot_pl (dq_typeIs hq) dq_entry_pl ?_ (dq_args_pl _)
  obtain ⟨hh, g, d, t, os⟩ := s
  have hq' : hh.get? q = some { cls := .type "collections.deque", data := .fields #[.none, .int n 0, v] } := hq
  unfold Builtin.«collections.deque.popleft» Builtin.Deque.items Builtin.Deque.change Builtin.Deque.state updateFields
  repeat lk
  refine wpAny_update hq' ?_
  have hq2 := (N2 (q, dqObj [] (n + 1)) (by simp)).1
  refine wpAny_lookBehind hq2 (by simp [dqObj, Data.pastItsLine, sizeLine]) ?_
  refine wpAny_pure ⟨_, rfl, ?_⟩
  have ev : (#[Value.none, Value.int n 0, v].extract 2)[0]'(by simp) = v := by simp
  rw [ev]
  exact h _ F2 N2
theorem dq_call_al (F : Fr h₀ L s.heap m) (N : News h₀ L s.heap news) (U : Upd q (dqObj [] n) (dqObj [v] (n + 1)) news news')
    (h : ∀ h', Fr h₀ L h' m → News h₀ L h' news' → Q .none { s with heap := h' }) :
    wpAny (model prog w) A (call (.builtin "collections.deque.appendleft") [.ref q, v]) Q E s := by
  obtain ⟨pre, post, rfl, rfl, h1, h2⟩ := U.split
  have hq := (N (q, dqObj [] n) (by simp)).1
  obtain ⟨F2, N2⟩ := news_upd (f := Obj.mapFields (fun vs => #[vs.getD 0 .none, rawInt (n + 1)] ++ (#[v] ++ vs.extract 2 vs.size))) F N h1 h2 (dq_al_obj v n) rfl
  refine wpAny_call_entry dq_slot_al (dq_typeIs hq) dq_entry_al ?_ (dq_args_al _ _)
  obtain ⟨hh, g, d, t, os⟩ := s
  have hq' : hh.get? q = some { cls := .type "collections.deque", data := .fields #[.none, .int n 0] } := hq
  unfold Builtin.«collections.deque.appendleft» Builtin.Deque.pushLeft Builtin.Deque.change Builtin.Deque.state updateFields
  repeat lk
  refine wpAny_update hq' ?_
  have hq2 := (N2 (q, dqObj [v] (n + 1)) (by simp)).1
  refine wpAny_lookBehind hq2 (by simp [dqObj, Data.pastItsLine, sizeLine]) ?_
  have hq3 : (hh.update q (Obj.mapFields (fun vs => #[vs.getD 0 .none, rawInt (n + 1)] ++ (#[v] ++ vs.extract 2 vs.size)))).get? q = some { cls := .type "collections.deque", data := .fields #[.none, .int (n + 1) 0, v] } := hq2
  unfold Builtin.Deque.maxlen
  repeat lk
  exact ⟨_, rfl, h _ F2 N2⟩
end
end
def TB (t k : Nat) : Prop := 0 < t ∧ t < k
def LeT (a b : Nat) : Prop := a ≤ b
theorem LeT.out {a b : Nat} (h : LeT a b) : a ≤ b := h
theorem LeT.in' {a b : Nat} (h : a ≤ b) : LeT a b := h
theorem TB.out {t k : Nat} (h : TB t k) : 0 < t ∧ t < k := h
theorem TB.mk' {t k : Nat} (h1 : 0 < t) (h2 : t < k) : TB t k := ⟨h1, h2⟩
theorem TB.up {t k k' : Nat} (h : TB t k) (hk : k ≤ k') : TB t k' := ⟨h.1, Nat.lt_of_lt_of_le h.2 hk⟩
theorem gen_le {α : Type} {M : Model} {A : Around} {t : Sem α} {Q : α → Shared → Prop} {E : Value → Shared → Prop} {h : Heap} {g : Array GenState} {d : Drawn} {k : Nat} {os : OsState}
    (H : ∀ k', LeT k k' → wpAny M A t Q E ⟨h, g, d, k', os⟩) : wpAny M A t Q E ⟨h, g, d, k, os⟩ := H k (Nat.le_refl k)
section
variable {prog : Program} {w : World} {A : Around} {E : Value → Shared → Prop} {s : Shared} {env : Env} {g : Heap} {L : Addr} {Q : Flow → Shared → Prop}
theorem While_tk {test : Expr} {body : List Stmt} {pos : Pos} {m : Str → Option Value} {news : List (Addr × Obj)} (J : Nat → (Str → Option Value) → List (Addr × Obj) → Nat → Prop) {n₀ : Nat}
    (F : Fr g L s.heap m) (N : News g L s.heap news) (hJ : J n₀ m news s.toks)
    (turn : ∀ n m₁ news₁ h₁ tk₁, Fr g L h₁ m₁ → News g L h₁ news₁ → J n m₁ news₁ tk₁ →
      wpAny (model prog w) A (isTrue test env (eval test env)) (fun b s₂ =>
        if b = true then wpAny (model prog w) A (execs body env) (fun f s₃ => match f with
          | .next | .cont => ∃ h' tk m₂ news₂ n', s₃ = { s with heap := h', toks := tk } ∧ Fr g L h' m₂ ∧ News g L h' news₂ ∧ n' < n ∧ J n' m₂ news₂ tk
          | .brk => Q .next s₃
          | .ret v => Q (.ret v) s₃) E s₂ else Q .next s₂) E { s with heap := h₁, toks := tk₁ })
    (hE : PassesOwn (model prog w) A env E) :
    wpAny (model prog w) A (exec (.While test body [] pos) env) Q E s := by
  let I : Nat → Shared → Prop := fun n s' => ∃ h₁ tk₁ m₁ news₁, s' = { s with heap := h₁, toks := tk₁ } ∧ Fr g L h₁ m₁ ∧ News g L h₁ news₁ ∧ J n m₁ news₁ tk₁
  have start : I n₀ s := ⟨s.heap, s.toks, m, news, rfl, F, N, hJ⟩
  refine wpAny_While (codeAny_whileLoop I (fun n s' hI => ?_) n₀ start)
  obtain ⟨h₁, tk₁, m₁, news₁, rfl, F₁, N₁, J₁⟩ := hI
  have T := turn n m₁ news₁ h₁ tk₁ F₁ N₁ J₁
  refine wpAny_mono T (fun b s₂ h₂ => ?_) hE
  by_cases hb : b = true
  · subst hb
    simp only [if_true] at h₂ ⊢
    refine wpAny_mono h₂ (fun f s₃ h₃ => ?_) hE
    cases f with
    | brk => exact h₃
    | ret v => exact h₃
    | next =>
      obtain ⟨h', tk, m₂, news₂, n', e, F₂, N₂, hn, J₂⟩ := h₃
      exact ⟨n', hn, h', tk, m₂, news₂, e, F₂, N₂, J₂⟩
    | cont =>
      obtain ⟨h', tk, m₂, news₂, n', e, F₂, N₂, hn, J₂⟩ := h₃
      exact ⟨n', hn, h', tk, m₂, news₂, e, F₂, N₂, J₂⟩
  · have hb' : b = false := by simpa using hb
    subst hb'
    simp only [Bool.false_eq_true, if_false] at h₂ ⊢
    exact wpAny_execs_nil h₂
end
def Lett (c : Nat) : Prop := c = 100 ∨ c = 114 ∨ c = 119 ∨ c = 120
theorem lett_ne {c : Nat} (h : Lett c) : c ≠ 45 := by rcases h with rfl | rfl | rfl | rfl <;> decide
section
variable {prog : Program} {w : World} {A : Around} {E : Value → Shared → Prop} {s : Shared} {c : Nat} {t u : Tok} {Q : Value → Shared → Prop}
theorem let_eq_nl (hL : Lett c) (h : Q (.bool false) s) : wpAny (model prog w) A (compareOp .Eq (.str ⟨#[c]⟩ t) (.str (Str.ofString "\n") u)) Q E s := by
  refine PyProof.Rows.eq_str ?_
  have e : ((⟨#[c]⟩ : Str) == Str.ofString "\n") = false := by rcases hL with rfl | rfl | rfl | rfl <;> decide +kernel
  rw [e]; exact h
theorem let_in_ws (hL : Lett c) (h : Q (.bool false) s) : wpAny (model prog w) A (compareOp .In (.str ⟨#[c]⟩ t) (.str (Str.ofString " \t\x0d\n") u)) Q E s := by
  refine PyProof.Rows.in_str ?_
  have e : (!(Builtin.Str.occurrences (Str.ofString " \t\x0d\n") (⟨#[c]⟩ : Str) 0 (Str.ofString " \t\x0d\n").length 1).isEmpty) = false := by rcases hL with rfl | rfl | rfl | rfl <;> decide +kernel
  rw [e]; exact h
theorem let_in_com (hL : Lett c) (h : Q (.bool false) s) : wpAny (model prog w) A (compareOp .In (.str ⟨#[c]⟩ t) (.str (Str.ofString "#") u)) Q E s := by
  refine PyProof.Rows.in_str ?_
  have e : (!(Builtin.Str.occurrences (Str.ofString "#") (⟨#[c]⟩ : Str) 0 (Str.ofString "#").length 1).isEmpty) = false := by rcases hL with rfl | rfl | rfl | rfl <;> decide +kernel
  rw [e]; exact h
theorem let_in_word (hL : Lett c) (h : Q (.bool true) s) : wpAny (model prog w) A (compareOp .In (.str ⟨#[c]⟩ t) (.str (Str.ofString "abcdfeghijklmnopqrstuvwxyzABCDEFGHIJKLMNOPQRSTUVWXYZ0123456789_") u)) Q E s := by
  refine PyProof.Rows.in_str ?_
  have e : (!(Builtin.Str.occurrences (Str.ofString "abcdfeghijklmnopqrstuvwxyzABCDEFGHIJKLMNOPQRSTUVWXYZ0123456789_") (⟨#[c]⟩ : Str) 0 (Str.ofString "abcdfeghijklmnopqrstuvwxyzABCDEFGHIJKLMNOPQRSTUVWXYZ0123456789_").length 1).isEmpty) = true := by rcases hL with rfl | rfl | rfl | rfl <;> decide +kernel
  rw [e]; exact h
theorem in_lit {x y : Str} (b : Bool) (e : (!(Builtin.Str.occurrences y x 0 y.length 1).isEmpty) = b) (h : Q (.bool b) s) : wpAny (model prog w) A (compareOp .In (.str x t) (.str y u)) Q E s := by
  refine PyProof.Rows.in_str ?_
  rw [e]; exact h
theorem eq_lit {x y : Str} (b : Bool) (e : (x == y) = b) (h : Q (.bool b) s) : wpAny (model prog w) A (compareOp .Eq (.str x t) (.str y u)) Q E s := by
  refine PyProof.Rows.eq_str ?_
  rw [e]; exact h
theorem truthy_lit {x : Str} {Q : Bool → Shared → Prop} (b : Bool) (e1 : decide ((x.length : Int) ≥ 2 ^ 63) = false) (e : ((x.length : Int) != 0) = b) (h : Q b { s with toks := s.toks + 1 + 1 }) : wpAny (model prog w) A (truthy (.str x t)) Q E s := by
  refine P.truthy_str (of_decide_eq_false e1) ?_
  rw [e]; exact h
theorem truthy_pos {x : Str} {Q : Bool → Shared → Prop} (h1 : 0 < x.length) (h2 : x.length ≤ 20) (h : Q true { s with toks := s.toks + 1 + 1 }) : wpAny (model prog w) A (truthy (.str x t)) Q E s := by
  refine P.truthy_str (by omega) ?_
  have e : ((x.length : Int) != 0) = true := by simp; omega
  rw [e]; exact h
theorem let_truthy {Q : Bool → Shared → Prop} (h : Q true { s with toks := s.toks + 1 + 1 }) : wpAny (model prog w) A (truthy (.str ⟨#[c]⟩ t)) Q E s :=
  P.truthy_str (by show ¬ ((1 : Int) ≥ 2 ^ 63); decide) h
end
theorem news_rot {h₀ h : Heap} {L : Addr} {p1 p2 p3 p4 : Addr × Obj} {news : List (Addr × Obj)} (N : News h₀ L h (p1 :: p2 :: p3 :: p4 :: news)) : News h₀ L h (p3 :: p4 :: p1 :: p2 :: news) :=
  fun p hp => N p (by simp only [List.mem_cons] at hp ⊢; rcases hp with h | h | h | h | h <;> simp [h])
theorem news_tl {h₀ h : Heap} {L : Addr} {p1 : Addr × Obj} {news : List (Addr × Obj)} (N : News h₀ L h (p1 :: news)) : News h₀ L h news := fun p hp => N p (.tail _ hp)
theorem fr_b {h₀ h : Heap} {L : Addr} {m₁ : Str → Option Value} {ps : List (Str × Value)} (F : Fr h₀ L h m₁) (hp : ∀ p ∈ ps, m₁ p.1 = some p.2) : Fr h₀ L h (kstB m₁ ps) := by
  have e : kstB m₁ ps = m₁ := by
    funext z
    exact kstB_eq hp fun _ => rfl
  rw [e]; exact F
def toS (l : List Nat) : Str := ⟨l.toArray⟩
def tokV (p : List Nat × Nat) : Value := .str (toS p.1) p.2
def StrsP (k : Nat) (vs : List Value) (ts : List (List Nat)) : Prop := ∃ ls : List (List Nat × Nat), vs = ls.map tokV ∧ ls.map (·.1) = ts ∧ ∀ p ∈ ls, TB p.2 k
theorem strsP_nil {k : Nat} : StrsP k [] [] := ⟨[], rfl, rfl, fun _ h => nomatch h⟩
theorem StrsP.up {k k' : Nat} {vs : List Value} {ts : List (List Nat)} (h : StrsP k vs ts) (hk : k ≤ k') : StrsP k' vs ts := let ⟨ls, a, b, c⟩ := h; ⟨ls, a, b, fun p hp => (c p hp).up hk⟩
theorem strsP_snoc {k : Nat} {vs : List Value} {ys : List (List Nat)} (h : StrsP k vs ys) (y : List Nat) (t : Nat) (ht : TB t k) : StrsP k (vs ++ [.str (toS y) t]) (ys ++ [y]) := by
  obtain ⟨ls, rfl, rfl, h3⟩ := h
  refine ⟨ls ++ [(y, t)], by simp [tokV], by simp, fun p hp => ?_⟩
  rcases List.mem_append.mp hp with h | h
  · exact h3 p h
  · simp at h; subst h; exact ht
theorem ne_cons {S d : Nat} {o : Obj} {news : List (Addr × Obj)} (h : S ≠ d) (n : ∀ p ∈ news, p.1 ≠ d) : ∀ p ∈ (S, o) :: news, p.1 ≠ d := List.forall_mem_cons.mpr ⟨h, n⟩
local macro_rules | `(tactic| k_room) => `(tactic| first
  | ((try simp only [depth_under_make, depth_under_kw, depth_in1, depth_deeper, depth_caller]); (try dsimp only [ktrTop]); omega)
  | ((try simp only [depth_under_make, depth_under_kw, depth_in1, depth_deeper, depth_caller]); decide))
local macro_rules | `(tactic| ktr_units) => `(tactic| first
  | ((try simp only [units_under_make, units_in1, units_deeper, Around.mark_units, units_caller]); (try dsimp only [ktrTop]); omega)
  | ((try simp only [units_in1, units_deeper, Around.mark_units, units_caller]); decide))
local macro_rules | `(tactic| walk_at "call builtin:object.__new__") => `(tactic| (k_here; k_dflt (refine' new636 ?F ?X ?N ?_; (case F => k_asm); (case X => k_asm); (case N => k_asm); k_whole; intro x' d' h' F' N' l1 l2; (try k_lt l1); (try k_lt2 l2); (try k_sweep))))
local macro_rules | `(tactic| walk_at "call ref") => `(tactic| (k_here; k_dflt ((with_reducible show wpAny _ _ (call (Value.ref 636) _ _) _ _ _); refine' wpAny_call (sio_make ?X ?_); (case X => k_in); k_whole; k_fold)))
local macro_rules | `(tactic| walk_at "SioMade") => `(tactic| (k_here; k_dflt (refine' sioMade_of ?F ?X ?N ?M ?_; (case F => k_asm); (case X => k_asm); (case N => k_asm); (case M => k_mem); k_whole; k_enter)))
local macro_rules | `(tactic| walk_at "call type:collections.deque") => `(tactic| (k_here; k_dflt (refine' dq_make ?F ?N ?_; (case F => k_asm); (case N => k_asm); k_whole; intro x' h' F' N' l1; (try k_lt l1); (try k_sweep))))
local macro_rules | `(tactic| walk_at "getMethod ref") => `(tactic| (k_here; (with_reducible show wpAny _ _ (getMethod _ (Str.ofString "popleft") _) _ _ _); k_dflt (refine' dq_meth_pl (News.get ?N ?M) ?_; (case N => k_asm); (case M => k_mem); k_whole)))
local macro_rules | `(tactic| walk_at "getMethod ref") => `(tactic| (k_here; (with_reducible show wpAny _ _ (getMethod _ (Str.ofString "appendleft") _) _ _ _); k_dflt (refine' dq_meth_al (News.get ?N ?M) ?_; (case N => k_asm); (case M => k_mem); k_whole)))
local macro_rules | `(tactic| walk_at "call builtin:collections.deque.popleft") => `(tactic| (k_here; k_dflt (refine' dq_call_pl ?F ?N ?U ?_; (case F => k_asm); (case N => k_asm); (case U => k_upd); k_whole; intro h' F' N'; (try k_sweep))))
local macro_rules | `(tactic| walk_at "call builtin:collections.deque.appendleft") => `(tactic| (k_here; k_dflt (refine' dq_call_al ?F ?N ?U ?_; (case F => k_asm); (case N => k_asm); (case U => k_upd); k_whole; intro h' F' N'; (try k_sweep))))
local macro_rules | `(tactic| walk_at "execs cons") => `(tactic| (k_here; (with_reducible show wpAny _ _ _ _ _ (Shared.mk _ _ _ (_ + _) _)); refine gen_le ?_; intro tk' hle'; (try dsimp only at hle')))
local macro_rules | `(tactic| walk_at "execs nil") => `(tactic| (k_here; (with_reducible show wpAny _ _ _ _ _ (Shared.mk _ _ _ (_ + _) _)); refine gen_le ?_; intro tk' hle'; (try dsimp only at hle')))
local macro_rules | `(tactic| walk_at "tb") => `(tactic| first | with_reducible assumption | with_reducible exact TB.mk' (Nat.succ_pos _) (Nat.lt_succ_self _) | ((repeat (with_reducible rename LeT _ _ => q1; have q2 := LeT.out q1; clear q1)); (repeat (with_reducible rename TB _ _ => q1; have q2 := TB.out q1; clear q1)); first | (with_reducible refine TB.mk' ?_ ?_ <;> omega) | (refine LeT.in' ?_; omega) | omega))
abbrev ent (w : World) (n : String) (t : Tok) (v : Value) : DictEntry := ⟨PyData.keyHash w.params (Str.ofString n), .str (Str.ofString n) t, v⟩
abbrev sioDict (w : World) (t1 t2 t3 tn tb tp : Tok) (buf : Str) (p : Int) : List DictEntry :=
  [⟨PyData.keyHash w.params (Str.ofString "_StringIO__newline"), .str (Str.ofString "_StringIO__newline") t1, .str (Str.ofString "\n") tn⟩,
   ⟨PyData.keyHash w.params (Str.ofString "_StringIO__buf"), .str (Str.ofString "_StringIO__buf") t2, .str buf tb⟩,
   ⟨PyData.keyHash w.params (Str.ofString "_StringIO__pos"), .str (Str.ofString "_StringIO__pos") t3, .int p tp⟩]
theorem news_drop2 {h₀ h : Heap} {L : Addr} {p1 p2 q1 q2 : Addr × Obj} {news : List (Addr × Obj)} (N : News h₀ L h (p1 :: p2 :: q1 :: q2 :: news)) : News h₀ L h (p1 :: p2 :: news) :=
  fun p hp => N p (by simp only [List.mem_cons] at hp ⊢; rcases hp with h | h | h <;> simp [h])
section
variable {w : World} {loose : List Str} {mean : ExcName → Option Value} {mg mb : Str → Option Value} {news : List (Addr × Obj)} {dp un : Nat} {gd : Option (List Code)} {cn : Str} {nm : List (Str × NameKind)} {ig ic : Bool} {mo : List (Str × Const)} {a : Addr} {ccd : Value} {cl : List (Str × Addr)} {outer : List Env} {A₀ : Around} {base h₀ : Heap} {L : Addr} {m : Str → Option Value} {s : Shared} {Q E : Value → Shared → Prop}
theorem c_sio {x : Str} {tx : Tok} (B : Below A₀ base outer h₀) (F : Fr h₀ L s.heap m) (X : (hd.heap_39 w.params).In h₀) (N : News h₀ L s.heap news) (T : Top hd.view_39 loose mean mg mb h₀) (hdp : dp + 9 < recursionLimit) (hun : un + 50 < cLine)
    (ret : ∀ io di t1 t2 t3 tn tb tp h' tk', Fr h₀ L h' m → News h₀ L h' ((io, instObj 636 di) :: (di, dictOf (sioDict w t1 t2 t3 tn tb tp x 0) 3) :: news) → (∀ p ∈ news, p.1 < di) → di < io → Q (.ref io) { s with heap := h', toks := tk' }) :
    wpAny (model PG w) (ktrTop dp un gd cn ⟨.function, nm, ig, ic, mo⟩ L a ccd cl outer) (call (.ref 636) [.str x tx]) Q E s := by
  k_steps
  all_goals (refine' ret _ _ _ _ _ _ _ _ _ _ ?F (news_drop2 ?N) ?a ?b)
  case N => k_asm
  case F => k_asm
  case a => exact ktn_ltOf (by tbn_find)
  case b => omega
end
local macro_rules | `(tactic| k_all) => `(tactic| assumption)
local macro_rules | `(tactic| walk_at "call ref") => `(tactic| (k_here; k_dflt ((with_reducible show wpAny _ _ (call (Value.ref 636) _ _) _ _ _); refine' c_sio ?B ?F ?X ?N ?T ?d ?u ?_; (case B => k_asm); (case F => k_asm); (case X => k_asm); (case N => k_asm); (case T => k_asm); (case d => k_room); (case u => ktr_units); k_whole; intro io' di' t1' t2' t3' tn' tb' tp' h' tk' F' N' l1 l2; (try k_lt l1); (try k_lt2 l2); (try k_sweep))))
structure ShT where
  (k1 k2 k3 k4 k5 k6 k7 k8 k9 k10 k11 k12 k13 k14 k15 k16 k17 k18 k19 : Tok)
  (v4 v5 v6 v7 v9 v10 v11 v14 v15 v19 : Tok)
abbrev shDict (w : World) (T : ShT) (io pb fs : Addr) (st tok : Value) : List DictEntry :=
  [⟨PyData.keyHash w.params (Str.ofString "instream"), .str (Str.ofString "instream") T.k1, .ref io⟩,
   ⟨PyData.keyHash w.params (Str.ofString "infile"), .str (Str.ofString "infile") T.k2, .none⟩,
   ⟨PyData.keyHash w.params (Str.ofString "posix"), .str (Str.ofString "posix") T.k3, .bool false⟩,
   ⟨PyData.keyHash w.params (Str.ofString "eof"), .str (Str.ofString "eof") T.k4, .str (Str.ofString "") T.v4⟩,
   ⟨PyData.keyHash w.params (Str.ofString "commenters"), .str (Str.ofString "commenters") T.k5, .str (Str.ofString "#") T.v5⟩,
   ⟨PyData.keyHash w.params (Str.ofString "wordchars"), .str (Str.ofString "wordchars") T.k6, .str (Str.ofString "abcdfeghijklmnopqrstuvwxyzABCDEFGHIJKLMNOPQRSTUVWXYZ0123456789_") T.v6⟩,
   ⟨PyData.keyHash w.params (Str.ofString "whitespace"), .str (Str.ofString "whitespace") T.k7, .str (Str.ofString " \t\x0d\n") T.v7⟩,
   ⟨PyData.keyHash w.params (Str.ofString "whitespace_split"), .str (Str.ofString "whitespace_split") T.k8, .bool false⟩,
   ⟨PyData.keyHash w.params (Str.ofString "quotes"), .str (Str.ofString "quotes") T.k9, .str (Str.ofString "'\"") T.v9⟩,
   ⟨PyData.keyHash w.params (Str.ofString "escape"), .str (Str.ofString "escape") T.k10, .str (Str.ofString "\\") T.v10⟩,
   ⟨PyData.keyHash w.params (Str.ofString "escapedquotes"), .str (Str.ofString "escapedquotes") T.k11, .str (Str.ofString "\"") T.v11⟩,
   ⟨PyData.keyHash w.params (Str.ofString "state"), .str (Str.ofString "state") T.k12, st⟩,
   ⟨PyData.keyHash w.params (Str.ofString "pushback"), .str (Str.ofString "pushback") T.k13, .ref pb⟩,
   ⟨PyData.keyHash w.params (Str.ofString "lineno"), .str (Str.ofString "lineno") T.k14, .int 1 T.v14⟩,
   ⟨PyData.keyHash w.params (Str.ofString "debug"), .str (Str.ofString "debug") T.k15, .int 0 T.v15⟩,
   ⟨PyData.keyHash w.params (Str.ofString "token"), .str (Str.ofString "token") T.k16, tok⟩,
   ⟨PyData.keyHash w.params (Str.ofString "filestack"), .str (Str.ofString "filestack") T.k17, .ref fs⟩,
   ⟨PyData.keyHash w.params (Str.ofString "source"), .str (Str.ofString "source") T.k18, .none⟩,
   ⟨PyData.keyHash w.params (Str.ofString "_punctuation_chars"), .str (Str.ofString "_punctuation_chars") T.k19, .str (Str.ofString "") T.v19⟩]
theorem news_sh {h₀ h : Heap} {L : Addr} {p1 p2 p3 p4 p5 p6 : Addr × Obj} {news : List (Addr × Obj)} (N : News h₀ L h (p1 :: p2 :: p3 :: p4 :: p5 :: p6 :: news)) : News h₀ L h (p5 :: p6 :: p3 :: p4 :: p2 :: p1 :: news) :=
  fun p hp => N p (by simp only [List.mem_cons] at hp ⊢; rcases hp with h | h | h | h | h | h | h <;> simp [h])
section
variable {w : World} {loose : List Str} {mean : ExcName → Option Value} {mg mb : Str → Option Value} {news : List (Addr × Obj)} {dp un : Nat} {gd : Option (List Code)} {cn : Str} {nm : List (Str × NameKind)} {ig ic : Bool} {mo : List (Str × Const)} {a : Addr} {ccd : Value} {cl : List (Str × Addr)} {outer : List Env} {A₀ : Around} {base h₀ : Heap} {L : Addr} {m : Str → Option Value} {s : Shared} {Q E : Value → Shared → Prop}
theorem c_shlex {x : Str} {tx : Tok} (B : Below A₀ base outer h₀) (F : Fr h₀ L s.heap m) (X : (hd.heap_39 w.params).In h₀) (N : News h₀ L s.heap news) (T : Top hd.view_39 loose mean mg mb h₀) (hdp : dp + 12 < recursionLimit) (hun : un + 70 < cLine)
    (ret : ∀ x' dx io di pb fs t1 t2 t3 tn tb tp vst vtok (T : ShT) h' tk', Fr h₀ L h' m →
      News h₀ L h' ((x', instObj 771 dx) :: (dx, dictOf (shDict w T io pb fs (.str (Str.ofString " ") vst) (.str (Str.ofString "") vtok)) 19) :: (io, instObj 636 di) :: (di, dictOf (sioDict w t1 t2 t3 tn tb tp x 0) 3) :: (pb, dqObj [] 0) :: (fs, dqObj [] 0) :: news) →
      (∀ p ∈ news, p.1 < dx) → dx < x' → x' < di → di < io → io < pb → pb < fs → Q (.ref x') { s with heap := h', toks := tk' }) :
    wpAny (model PG w) (ktrTop dp un gd cn ⟨.function, nm, ig, ic, mo⟩ L a ccd cl outer) (call (.ref 771) [.str x tx]) Q E s := by
  k_steps
  all_goals (refine' ret _ _ _ _ _ _ _ _ _ _ _ _ _ _ ⟨_, _, _, _, _, _, _, _, _, _, _, _, _, _, _, _, _, _, _, _, _, _, _, _, _, _, _, _, _⟩ _ _ ?F (news_sh ?N) ?a ?b ?c ?d ?e ?f)
  case N => k_asm
  case F => k_asm
  case a => first | assumption | exact ktn_ltOf (by tbn_find)
  all_goals (refine ltN ?_; omega)
end
theorem ind_cut {n : Nat} (h : 0 < n) : ¬ (((1 : Int) == 1 && (Builtin.Str.strSliceIndices none (some (-1)) 1 n).length == n) = true) := by
  have : (Builtin.Str.strSliceIndices none (some (-1)) 1 n).length ≠ n := by
    unfold Builtin.Str.strSliceIndices sliceRange
    simp only [show (1 : Int) > 0 by decide, if_true, List.length_map, List.length_range]
    (split <;> (try split) <;> (try split) <;> (try simp only [Int.ediv_one]) <;> omega)
  simp [this]
theorem post_cut {s : Shared} {c : Prop} [Decidable c] {y z : Str} {t : Tok} {Q : Value → Shared → Prop} (hc : ¬ c) (hz : (if c then y else z).length ≤ sizeLine) (h : Q (.str (if c then y else z) s.toks) { s with toks := s.toks + 1 }) :
    (if c then Made.val (.str y t) else Made.str z).post Q s := by
  rw [if_neg hc] at hz h ⊢; exact ⟨hz, h⟩
theorem slice_cut {prog : Program} {w : World} {A : Around} {E : Value → Shared → Prop} {s : Shared} {value slice : Expr} {x : Str} {t : Tok} {h₀ : Heap} {L : Addr} {m : Str → Option Value} {news : List (Addr × Obj)} {Q : Value → Shared → Prop} {uj : Tok}
    (hF : Fr h₀ L s.heap m) (hN : News h₀ L s.heap news) (hx : 0 < x.length) (hsz : x.length ≤ sizeLine) (hp : 0 < s.toks)
    (h : ∀ h' t' k, TB t' k → LeT s.toks k → Fr h₀ L h' m → News h₀ L h' news → Q (.str (Txt.slice x none (some (-1))) t') { s with heap := h', toks := k })
    (hs : subscripted slice false (.str x t) (.ref s.heap.objs.size) = operate [.ref s.heap.objs.size, .str x t] (getItem (.str x t) (.ref s.heap.objs.size)) := by with_unfolding_all rfl)
    (ht : ∀ r, letTemporaryGo value (.str x t) r = pure () := by intro _; with_unfolding_all rfl) :
    wpAny (model prog w) A (subscriptTail value slice (.str x t) (.ref s.heap.objs.size)) Q E { s with heap := s.heap.push { cls := .type "slice", data := .fields #[.none, .int (-1) uj, .none] } } :=
  PyProof.Rows.tail_of_ItemOn ⟨"str", _, PySem.F.slot_str_getitem.lookup, typeIs_str _ _ _, wpAny_getItem_str_slice (l := none) (u := some (-1, uj)) (st := none) ⟨_, Heap.get?_push_size _ rfl, rfl, rfl⟩ rfl
    (post_cut (ind_cut hx) (Nat.le_trans (Txt.slice_le x _ _) hsz) (h _ _ _ ⟨hp, Nat.lt_succ_self _⟩ (Nat.le_succ _) (PyProof.Rows.keptFrN _ _ ⟨hF, hN⟩).1 (PyProof.Rows.keptFrN _ _ ⟨hF, hN⟩).2))⟩ hs ht
theorem iadd_tok {prog : Program} {w : World} {A : Around} {E : Value → Shared → Prop} {s : Shared} {x y : Str} {t u : Tok} {Q : Value → Shared → Prop} (hx : 0 < x.length) (hy : 0 < y.length) (hz : (x ++ y).length ≤ sizeLine) (hs : 0 < s.toks)
    (h : ∀ t', TB t' (s.toks + 1) → Q (.str (x ++ y) t') { s with toks := s.toks + 1 }) : wpAny (model prog w) A (inplaceOp .Add (.str x t) (.str y u)) Q E s := by
  refine P.iadd_str ?_
  have e1 : (x.length == 0) = false := beq_eq_false_iff_ne.mpr (by omega)
  have e2 : (y.length == 0) = false := beq_eq_false_iff_ne.mpr (by omega)
  rw [e1, e2]
  exact ⟨hz, h _ ⟨hs, Nat.lt_succ_self _⟩⟩
theorem iadd_tok1 {prog : Program} {w : World} {A : Around} {E : Value → Shared → Prop} {s : Shared} {x : Str} {c : Nat} {t u : Tok} {Q : Value → Shared → Prop} {n : Nat} (hx : 0 < x.length) (hz : x.length ≤ 20) (hs : s.toks = n + 1)
    (h : ∀ t', TB t' (s.toks + 1) → Q (.str (x ++ ⟨#[c]⟩) t') { s with toks := s.toks + 1 }) : wpAny (model prog w) A (inplaceOp .Add (.str x t) (.str ⟨#[c]⟩ u)) Q E s :=
  iadd_tok hx (by exact Nat.one_pos) (by rw [Str.length_append, PySem.sizeLine_eq]; show _ + 1 ≤ _; omega) (by omega) h
local macro_rules | `(tactic| walk_at "subscriptTail Name Slice str ref") => `(tactic| (k_here; (with_reducible show wpAny _ _ (subscriptTail _ (Expr.Slice none (some _) none _) _ _) _ _ _); (with_reducible rename Fr _ _ _ _ => F'); (with_reducible rename News _ _ _ _ => N'); (refine slice_cut (hsz := ?hsz) (hx := ?hx) (hp := ?hp) (s := ⟨_, _, _, _, _⟩) F' N' ?_); (case hsz => size_fits); (case hx => (show 0 < (_ ++ Str.ofString " ").length; rw [Str.length_append, show (Str.ofString " ").length = 1 from by decide +kernel]; omega)); (case hp => exact Nat.succ_pos _); intro _ _ _ hpos' hle' _ _; (try dsimp only at hle')))
theorem slice_two (c : Nat) : Txt.slice (⟨#[c]⟩ ++ Str.ofString " ") none (some (-1)) = ⟨#[c]⟩ := by
  have e : (⟨#[c]⟩ ++ Str.ofString " " : Str) = ⟨#[c, 32]⟩ := by
    rw [show Str.ofString " " = ⟨#[32]⟩ from by decide +kernel]; rfl
  rw [e]
  have hi : Builtin.Str.strSliceIndices none (some (-1)) 1 2 = [0] := by decide +kernel
  unfold Txt.slice
  have hl : (⟨#[c, 32]⟩ : Str).length = 2 := rfl
  rw [hl, hi]
  rfl
theorem slice_one {buf : Str} {p : Int} {c : Nat} (hp0 : 0 ≤ p) (hp1 : p < buf.length) (hc : buf.cps[p.toNat]? = some c) :
    Txt.slice (Txt.slice buf (some p) (some (p + 1)) ++ Str.ofString " ") none (some (-1)) = ⟨#[c]⟩ := by
  have hl : (buf.length : Int) = buf.cps.toList.length := by simp [Str.length]
  have h1 : Txt.slice buf (some p) (some (p + 1)) = ⟨#[c]⟩ := by
    have h := beq_iff_eq.mp (slice_closes (x := buf) (i := p) (j := p + 1) ⟨hp0, by omega, by omega⟩)
    rw [h]
    have h2 : (p + 1 - p).toNat = 1 := by omega
    rw [h2]
    have h3 : (buf.cps.toList.drop p.toNat).take 1 = [c] := by
      have h4 : buf.cps.toList[p.toNat]? = some c := by rw [Array.getElem?_toList]; exact hc
      obtain ⟨h5, h6⟩ := List.getElem?_eq_some_iff.mp h4
      rw [List.drop_eq_getElem_cons h5, h6]; rfl
    rw [h3]
  rw [h1]
  exact slice_two c
section
variable {w : World} {loose : List Str} {mean : ExcName → Option Value} {mg mb : Str → Option Value} {news : List (Addr × Obj)} {dp un : Nat} {gd : Option (List Code)} {cn : Str} {nm : List (Str × NameKind)} {ig ic : Bool} {mo : List (Str × Const)} {a : Addr} {ccd : Value} {cl : List (Str × Addr)} {outer : List Env} {A₀ : Around} {base h₀ : Heap} {L : Addr} {m : Str → Option Value} {s : Shared} {Q E : Value → Shared → Prop}
theorem c_read {buf : Str} {p : Int} {io di : Nat} {t1 t2 t3 tn tb tp tx : Tok} (B : Below A₀ base outer h₀) (F : Fr h₀ L s.heap m) (X : (hd.heap_39 w.params).In h₀) (N : News h₀ L s.heap ((io, instObj 636 di) :: (di, dictOf (sioDict w t1 t2 t3 tn tb tp buf p) 3) :: news)) (T : Top hd.view_39 loose mean mg mb h₀)
    (hlen : (buf.length : Int) ≤ 20) (hp0 : 0 ≤ p) (hp1 : p ≤ buf.length) (hio : di < io) (hne : ∀ p ∈ news, p.1 ≠ di) (hdp : dp + 9 < recursionLimit) (hun : un + 50 < cLine)
    (ret : p < buf.length → ∀ y, y = Txt.slice (Txt.slice buf (some p) (some (p + 1)) ++ Str.ofString " ") none (some (-1)) → ∀ tp' tr h' tk', TB tr tk' → Fr h₀ L h' m → News h₀ L h' ((io, instObj 636 di) :: (di, dictOf (sioDict w t1 t2 t3 tn tb tp' buf (p + 1)) 3) :: news) → Q (.str y tr) { s with heap := h', toks := tk' })
    (eof : p = buf.length → ∀ tr h' tk', Fr h₀ L h' m → News h₀ L h' ((io, instObj 636 di) :: (di, dictOf (sioDict w t1 t2 t3 tn tb tp buf p) 3) :: news) → Q (.str (Str.ofString "") tr) { s with heap := h', toks := tk' }) :
    wpAny (model PG w) (ktrTop dp un gd cn ⟨.function, nm, ig, ic, mo⟩ L a ccd cl outer) (call (.ref 582) [.ref io, .int 1 tx]) Q E s := by
  k_steps
  · exact eof (by omega) _ _ _ (by k_asm) (by k_asm)
  · exact ret (by omega) _ rfl _ _ _ _ (by walk_at "tb") (by k_asm) (by k_asm)
  · have e9 : (buf.length : Int) = p + 1 := by omega
    (rename News _ _ _ _ => nE')
    rw [e9] at nE' ⊢
    exact ret (by omega) _ rfl _ _ _ _ (by walk_at "tb") (by k_asm) nE'
theorem c_read_some {buf : Str} {p : Int} {c : Nat} {io di : Nat} {t1 t2 t3 tn tb tp tx : Tok} (B : Below A₀ base outer h₀) (F : Fr h₀ L s.heap m) (X : (hd.heap_39 w.params).In h₀) (N : News h₀ L s.heap ((io, instObj 636 di) :: (di, dictOf (sioDict w t1 t2 t3 tn tb tp buf p) 3) :: news)) (T : Top hd.view_39 loose mean mg mb h₀)
    (hlen : (buf.length : Int) ≤ 20) (hp0 : 0 ≤ p) (hp1 : p < buf.length) (hc : buf.cps[p.toNat]? = some c) (hio : di < io) (hne : ∀ p ∈ news, p.1 ≠ di) (hdp : dp + 9 < recursionLimit) (hun : un + 50 < cLine)
    (ret : ∀ tp' tr h' tk', TB tr tk' → LeT s.toks tk' → Fr h₀ L h' m → News h₀ L h' ((io, instObj 636 di) :: (di, dictOf (sioDict w t1 t2 t3 tn tb tp' buf (p + 1)) 3) :: news) → Q (.str ⟨#[c]⟩ tr) { s with heap := h', toks := tk' }) :
    wpAny (model PG w) (ktrTop dp un gd cn ⟨.function, nm, ig, ic, mo⟩ L a ccd cl outer) (call (.ref 582) [.ref io, .int 1 tx]) Q E s :=
  wpAny_with_toks (Nat.le_refl _) (c_read B F X N T hlen hp0 (by omega) hio hne hdp hun (fun _ y hy => by rw [hy, slice_one hp0 hp1 hc]; exact fun tp' tr h' tk' ht F' N' hle => ret tp' tr h' tk' ht hle F' N') (fun e => by omega))
theorem c_read_eof {buf : Str} {p : Int} {io di : Nat} {t1 t2 t3 tn tb tp tx : Tok} (B : Below A₀ base outer h₀) (F : Fr h₀ L s.heap m) (X : (hd.heap_39 w.params).In h₀) (N : News h₀ L s.heap ((io, instObj 636 di) :: (di, dictOf (sioDict w t1 t2 t3 tn tb tp buf p) 3) :: news)) (T : Top hd.view_39 loose mean mg mb h₀)
    (hlen : (buf.length : Int) ≤ 20) (hp1 : p = buf.length) (hio : di < io) (hne : ∀ p ∈ news, p.1 ≠ di) (hdp : dp + 9 < recursionLimit) (hun : un + 50 < cLine)
    (eof : ∀ tr h' tk', LeT s.toks tk' → Fr h₀ L h' m → News h₀ L h' ((io, instObj 636 di) :: (di, dictOf (sioDict w t1 t2 t3 tn tb tp buf p) 3) :: news) → Q (.str (Str.ofString "") tr) { s with heap := h', toks := tk' }) :
    wpAny (model PG w) (ktrTop dp un gd cn ⟨.function, nm, ig, ic, mo⟩ L a ccd cl outer) (call (.ref 582) [.ref io, .int 1 tx]) Q E s :=
  wpAny_with_toks (Nat.le_refl _) (c_read B F X N T hlen (by omega) (by omega) hio hne hdp hun (fun e => by omega) (fun _ tr h' tk' F' N' hle => eof tr h' tk' hle F' N'))
end
inductive RtPost (k : Nat) (r : List Nat) : List Nat → List Nat → Value → List Value → Prop
  | eof : r = [] → RtPost k r [] [] .none []
  | minus (r' : List Nat) (t : Tok) : r = 45 :: r' → RtPost k r [45] r' (.str (Str.ofString " ") t) []
  | wend : r ≠ [] → (∀ c ∈ r, c ≠ 45) → RtPost k r r [] .none []
  | wminus (u r' : List Nat) (t t2 : Tok) : u ≠ [] → (∀ c ∈ u, c ≠ 45) → r = u ++ 45 :: r' → TB t2 k → RtPost k r u r' (.str (Str.ofString " ") t) [.str ⟨#[45]⟩ t2]
theorem RtPost.up {k k' : Nat} {r tok r' : List Nat} {st' : Value} {pbs' : List Value} (h : RtPost k r tok r' st' pbs') (hk : LeT k k') : RtPost k' r tok r' st' pbs' := by
  cases h with
  | eof h => exact .eof h
  | minus r' t h => exact .minus r' t h
  | wend h h2 => exact .wend h h2
  | wminus u r' t t2 h h1 h2 h3 => exact .wminus _ _ t t2 h h1 h2 (h3.up hk)
local macro_rules | `(tactic| walk_at "compareOp Eq str str") => `(tactic| (k_here; first | with_reducible refine let_eq_nl (by assumption) ?_ | refine eq_lit false (by decide +kernel) ?_ | refine eq_lit true (by decide +kernel) ?_))
local macro_rules | `(tactic| walk_at "compareOp In str str") => `(tactic| (k_here; first | with_reducible refine let_in_ws (by assumption) ?_ | with_reducible refine let_in_com (by assumption) ?_ | with_reducible refine let_in_word (by assumption) ?_ | refine in_lit false (by decide +kernel) ?_ | refine in_lit true (by decide +kernel) ?_))
local macro_rules | `(tactic| walk_at "truthy str") => `(tactic| (k_here; first | refine truthy_lit false (by decide +kernel) (by decide +kernel) ?_ | refine truthy_lit true (by decide +kernel) (by decide +kernel) ?_ | with_reducible refine let_truthy ?_ | refine truthy_pos (by with_reducible assumption) (by with_reducible assumption) ?_))
local macro_rules | `(tactic| walk_at "call ref") => `(tactic| (k_here; k_dflt ((with_reducible show wpAny _ _ (call (Value.ref 582) _ _) _ _ _); first
  | (refine' c_read_some ?B ?F ?X (news_rot ?N) ?T ?l ?p0 ?p1 ?hc ?io ?ne ?d ?u ?_; (case B => k_asm); (case F => k_asm); (case X => k_asm); (case N => k_asm); (case T => k_asm); (case hc => assumption); (case l => assumption); (case p0 => omega); (case p1 => omega); (case io => assumption); (case ne => k_all); (case d => k_room); (case u => ktr_units); k_whole; intro tp' tr' h' tk' tpos' hle' F' N'; (try dsimp only at hle'); (replace N' := news_rot N'); (try k_sweep))
  | (refine' c_read_eof ?B ?F ?X (news_rot ?N) ?T ?l ?p1 ?io ?ne ?d ?u ?_; (case B => k_asm); (case F => k_asm); (case X => k_asm); (case N => k_asm); (case T => k_asm); (case p1 => assumption); (case l => assumption); (case io => assumption); (case ne => k_all); (case d => k_room); (case u => ktr_units); k_whole; intro tr' h' tk' hle' F' N'; (try dsimp only at hle'); (replace N' := news_rot N'); (try k_sweep)))))
local macro_rules | `(tactic| walk_at "inplaceOp Add str str") => `(tactic| (k_here; k_dflt (refine' iadd_tok1 ?hx ?hz ?hs ?_; (case hs => exact rfl); (case hx => with_reducible assumption); (case hz => with_reducible assumption); intro _ hpos'; (try dsimp only at hpos'))))
abbrev shLn (w : World) (T : ShT) (x dx io di pb fs : Nat) (t1 t2 t3 tn tb : Tok) (buf : Str) (news : List (Addr × Obj)) (st tok : Value) (p : Int) (tp : Tok) (pbs : List Value) (npb : Int) : List (Addr × Obj) :=
  (x, instObj 771 dx) :: (dx, dictOf (shDict w T io pb fs st tok) 19) :: (io, instObj 636 di) :: (di, dictOf (sioDict w t1 t2 t3 tn tb tp buf p) 3) :: (pb, dqObj pbs npb) :: (fs, dqObj [] 0) :: news
abbrev rtPs (x : Nat) (te : Tok) : List (Str × Value) := [(Str.ofString "self", .ref x), (Str.ofString "quoted", .bool false), (Str.ofString "escapedstate", .str (Str.ofString " ") te)]
structure RtM (x : Nat) (te : Tok) (m : Str → Option Value) : Prop where
  self : m (Str.ofString "self") = some (.ref x)
  quoted : m (Str.ofString "quoted") = some (.bool false)
  esc : m (Str.ofString "escapedstate") = some (.str (Str.ofString " ") te)
theorem RtM.all {x : Nat} {te : Tok} {m : Str → Option Value} (h : RtM x te m) : ∀ q ∈ rtPs x te, m q.1 = some q.2 := by
  intro q hq
  simp only [rtPs, List.mem_cons, List.not_mem_nil, or_false] at hq
  rcases hq with rfl | rfl | rfl
  · exact h.self
  · exact h.quoted
  · exact h.esc
section
variable (w : World) (T : ShT) (x dx io di pb fs : Nat) (t1 t2 t3 tn tb : Tok) (buf : Str) (news : List (Addr × Obj)) (g : Heap) (L : Addr) (s : Shared) (r : List Nat)
def RtQ (f : Flow) (s' : Shared) : Prop :=
  f = .next ∧ ∃ tok r' st' pbs' p' npb' tp' vt m' h' tk', s' = { s with heap := h', toks := tk' } ∧ Fr g L h' m' ∧ (∃ te, RtM x te m') ∧
    News g L h' (shLn w T x dx io di pb fs t1 t2 t3 tn tb buf news st' (.str ⟨List.toArray tok⟩ vt) p' tp' pbs' npb') ∧ RtPost tk' r tok r' st' pbs' ∧ (tok ≠ [] → TB vt tk') ∧ 0 ≤ p' ∧ p' ≤ (buf.length : Int) ∧ buf.cps.toList.drop p'.toNat = r'
def RtJ (p0 npb : Int) (n : Nat) (m : Str → Option Value) (nx : List (Addr × Obj)) (tk : Nat) : Prop :=
  ∃ (k : Nat) (st : Value) (tokS : Str) (vt : Tok) (p : Int) (tp : Tok), nx = shLn w T x dx io di pb fs t1 t2 t3 tn tb buf news st (.str tokS vt) p tp [] npb ∧ (∃ te, RtM x te m) ∧ p = p0 + k ∧ k ≤ r.length ∧ n = r.length + 1 - k ∧
    ((k = 0 ∧ tokS = Str.ofString "" ∧ ((∃ t, st = .str (Str.ofString " ") t) ∨ (st = .none ∧ r = []))) ∨ (0 < k ∧ (∃ t, st = .str (Str.ofString "a") t) ∧ tokS = ⟨(r.take k).toArray⟩ ∧ TB vt tk ∧ ∀ c ∈ r.take k, c ≠ 45))
end
theorem dash_is : Str.ofString "-" = ⟨List.toArray [45]⟩ := by decide +kernel
theorem drop_len_eq {l : List Nat} {p : Nat} (h : l.drop p = []) (hp : p ≤ l.length) : p = l.length := by
  have := congrArg List.length h
  simp at this; omega
theorem drop_get {l r : List Nat} {p : Nat} {c : Nat} (h : l.drop p = c :: r) : l[p]? = some c ∧ p < l.length ∧ l.drop (p + 1) = r := by
  have h1 : (l.drop p)[0]? = some c := by rw [h]; rfl
  rw [List.getElem?_drop, Nat.add_zero] at h1
  have h2 := (List.getElem?_eq_some_iff.mp h1).1
  refine ⟨h1, h2, ?_⟩
  have : l.drop (p + 1) = (l.drop p).drop 1 := by rw [List.drop_drop]
  rw [this, h]; rfl
section
variable {w : World} {T : ShT} {x dx io di pb fs : Nat} {t1 t2 t3 tn tb : Tok} {buf : Str} {news : List (Addr × Obj)} {g : Heap} {L : Addr} {s : Shared} {r : List Nat}
variable {A : Around} {E : Value → Shared → Prop} {env : Env}
abbrev RtTurn (w : World) (A : Around) (env : Env) (test : Expr) (body : List Stmt) (Qf : Shared → Prop) (Qn : Flow → Shared → Prop) (E : Value → Shared → Prop) (s : Shared) : Prop :=
  wpAny (model PG w) A (isTrue test env (eval test env)) (fun b s₂ => if b = true then wpAny (model PG w) A (execs body env) Qn E s₂ else Qf s₂) E s
theorem rt_while {test : Expr} {body : List Stmt} {pos : Pos} {m : Str → Option Value} {st : Value} {p0 npb : Int} {tp te vt : Tok}
    (F : Fr g L s.heap m) (N : News g L s.heap (shLn w T x dx io di pb fs t1 t2 t3 tn tb buf news st (.str (Str.ofString "") vt) p0 tp [] npb)) (hm : RtM x te m)
    (hp0 : 0 ≤ p0) (hp1 : p0 ≤ buf.length) (hr : buf.cps.toList.drop p0.toNat = r) (hch : ∀ c ∈ r, c = 45 ∨ Lett c)
    (hst : (∃ t, st = .str (Str.ofString " ") t) ∨ (st = .none ∧ r = []))
    (T1 : ∀ Qf Qn h tk m te vt tp, p0 = buf.length → Fr g L h (kstB m (rtPs x te)) → News g L h (shLn w T x dx io di pb fs t1 t2 t3 tn tb buf news .none (.str (Str.ofString "") vt) p0 tp [] npb) →
      (∀ m' vt' h' tk', Fr g L h' m' → RtM x te m' → News g L h' (shLn w T x dx io di pb fs t1 t2 t3 tn tb buf news .none (.str (Str.ofString "") vt') p0 tp [] npb) → Qn .brk { s with heap := h', toks := tk' }) →
      RtTurn w A env test body Qf Qn E { s with heap := h, toks := tk })
    (T2 : ∀ Qf Qn h tk m te vt tp t, p0 = buf.length → Fr g L h (kstB m (rtPs x te)) → News g L h (shLn w T x dx io di pb fs t1 t2 t3 tn tb buf news (.str (Str.ofString " ") t) (.str (Str.ofString "") vt) p0 tp [] npb) →
      (∀ m' vt' h' tk', Fr g L h' m' → RtM x te m' → News g L h' (shLn w T x dx io di pb fs t1 t2 t3 tn tb buf news .none (.str (Str.ofString "") vt') p0 tp [] npb) → Qn .brk { s with heap := h', toks := tk' }) →
      RtTurn w A env test body Qf Qn E { s with heap := h, toks := tk })
    (T3 : ∀ Qf Qn h tk m te vt tp t, p0 < buf.length → buf.cps[p0.toNat]? = some 45 → Fr g L h (kstB m (rtPs x te)) → News g L h (shLn w T x dx io di pb fs t1 t2 t3 tn tb buf news (.str (Str.ofString " ") t) (.str (Str.ofString "") vt) p0 tp [] npb) →
      (∀ m' vt' h' tk' tp' t', TB vt' tk' → Fr g L h' m' → RtM x te m' → News g L h' (shLn w T x dx io di pb fs t1 t2 t3 tn tb buf news (.str (Str.ofString " ") t') (.str (Str.ofString "-") vt') (p0 + 1) tp' [] npb) → Qn .brk { s with heap := h', toks := tk' }) →
      RtTurn w A env test body Qf Qn E { s with heap := h, toks := tk })
    (T4 : ∀ Qf Qn h tk m te vt tp t c, Lett c → p0 < buf.length → buf.cps[p0.toNat]? = some c → Fr g L h (kstB m (rtPs x te)) → News g L h (shLn w T x dx io di pb fs t1 t2 t3 tn tb buf news (.str (Str.ofString " ") t) (.str (Str.ofString "") vt) p0 tp [] npb) →
      (∀ m' vt' h' tk' tp' t', TB vt' tk' → Fr g L h' m' → RtM x te m' → News g L h' (shLn w T x dx io di pb fs t1 t2 t3 tn tb buf news (.str (Str.ofString "a") t') (.str ⟨#[c]⟩ vt') (p0 + 1) tp' [] npb) → Qn .next { s with heap := h', toks := tk' }) →
      RtTurn w A env test body Qf Qn E { s with heap := h, toks := tk })
    (T5 : ∀ Qf Qn h tk m te vt tp t (p : Int) tokS, 0 ≤ p → p = buf.length → 0 < (tokS : Str).length → tokS.length ≤ 20 → TB vt tk → Fr g L h (kstB m (rtPs x te)) → News g L h (shLn w T x dx io di pb fs t1 t2 t3 tn tb buf news (.str (Str.ofString "a") t) (.str tokS vt) p tp [] npb) →
      (∀ m' vt' h' tk', TB vt' tk' → Fr g L h' m' → RtM x te m' → News g L h' (shLn w T x dx io di pb fs t1 t2 t3 tn tb buf news .none (.str tokS vt') p tp [] npb) → Qn .brk { s with heap := h', toks := tk' }) →
      RtTurn w A env test body Qf Qn E { s with heap := h, toks := tk })
    (T6 : ∀ Qf Qn h tk m te vt tp t (p : Int) tokS, 0 ≤ p → p < buf.length → buf.cps[p.toNat]? = some 45 → 0 < (tokS : Str).length → tokS.length ≤ 20 → TB vt tk → Fr g L h (kstB m (rtPs x te)) → News g L h (shLn w T x dx io di pb fs t1 t2 t3 tn tb buf news (.str (Str.ofString "a") t) (.str tokS vt) p tp [] npb) →
      (∀ m' vt' h' tk' tp' t' t2' npb', TB vt' tk' → TB t2' tk' → Fr g L h' m' → RtM x te m' → News g L h' (shLn w T x dx io di pb fs t1 t2 t3 tn tb buf news (.str (Str.ofString " ") t') (.str tokS vt') (p + 1) tp' [.str ⟨#[45]⟩ t2'] npb') → Qn .brk { s with heap := h', toks := tk' }) →
      RtTurn w A env test body Qf Qn E { s with heap := h, toks := tk })
    (T7 : ∀ Qf Qn h tk m te vt tp t (p : Int) tokS c, Lett c → 0 ≤ p → p < buf.length → buf.cps[p.toNat]? = some c → 0 < (tokS : Str).length → tokS.length ≤ 20 → TB vt tk → Fr g L h (kstB m (rtPs x te)) → News g L h (shLn w T x dx io di pb fs t1 t2 t3 tn tb buf news (.str (Str.ofString "a") t) (.str tokS vt) p tp [] npb) →
      (∀ m' vt' h' tk' tp' t', TB vt' tk' → Fr g L h' m' → RtM x te m' → News g L h' (shLn w T x dx io di pb fs t1 t2 t3 tn tb buf news (.str (Str.ofString "a") t') (.str (tokS ++ ⟨#[c]⟩) vt') (p + 1) tp' [] npb) → Qn .next { s with heap := h', toks := tk' }) →
      RtTurn w A env test body Qf Qn E { s with heap := h, toks := tk })
    (hlen : (buf.length : Int) ≤ 20) (hE : PassesOwn (model PG w) A env E) :
    wpAny (model PG w) A (exec (.While test body [] pos) env) (RtQ w T x dx io di pb fs t1 t2 t3 tn tb buf news g L s r) E s := by
  have hL : (buf.length : Int) = buf.cps.toList.length := by simp [Str.length]
  have hrl : p0.toNat + r.length = buf.cps.toList.length := by rw [← hr, List.length_drop]; omega
  have hdrop : ∀ k : Nat, buf.cps.toList.drop (p0 + k).toNat = r.drop k := fun k => by
    rw [← hr, List.drop_drop]; congr 1; omega
  refine While_tk (RtJ w T x dx io di pb fs t1 t2 t3 tn tb buf news r p0 npb) (n₀ := r.length + 1) F N ⟨0, st, _, vt, p0, tp, rfl, ⟨te, hm⟩, by omega, Nat.zero_le _, by omega, .inl ⟨rfl, rfl, hst⟩⟩ ?_ hE
  rintro n m₁ nx h₁ tk₁ F₁ N₁ ⟨k, st₁, tokS, vt₁, p, tp₁, rfl, ⟨te₁, hm₁⟩, hp, hk, hn, hc⟩
  have F₂ := fr_b F₁ hm₁.all
  have hd := hdrop k
  rw [← hp] at hd
  have hpos : 0 ≤ p := by omega
  have next : ∀ (c : Nat) (r' : List Nat), r.drop k = c :: r' → buf.cps[p.toNat]? = some c ∧ p < buf.length ∧ r.drop (k + 1) = r' ∧ k + 1 ≤ r.length ∧ r.take (k + 1) = r.take k ++ [c] := fun c r' e => by
    have h1 := drop_get (hd.trans e)
    have h2 := drop_get e
    refine ⟨by rw [← Array.getElem?_toList]; exact h1.1, by omega, h2.2.2, by omega, ?_⟩
    rw [List.take_add_one, h2.1]; rfl
  have last : r.drop k = [] → p = buf.length ∧ k = r.length := fun e => by
    have h2 := drop_len_eq e hk
    omega
  rcases hc with ⟨rfl, rfl, hs⟩ | ⟨hk0, ⟨t, rfl⟩, rfl, hv₁, hlet⟩
  · have hpp : p = p0 := by omega
    subst hpp
    have hcs : r = [] ∨ ∃ c r', r = c :: r' := by
      cases r with
      | nil => exact .inl rfl
      | cons c r' => exact .inr ⟨c, r', rfl⟩
    rcases hcs with hr0 | ⟨c, r', hr0⟩
    · have hl := last (by rw [hr0]; rfl)
      rcases hs with ⟨t, rfl⟩ | ⟨rfl, -⟩
      · exact T2 _ _ _ _ _ _ _ _ _ hl.1 F₂ N₁ fun m' vt' h' tk' F' hm' N' => ⟨rfl, [], [], .none, [], p, npb, tp₁, vt', m', h', tk', rfl, F', ⟨_, hm'⟩, N', .eof hr0, fun z => absurd rfl z, hp0, hp1, by rw [hr, hr0]⟩
      · exact T1 _ _ _ _ _ _ _ _ hl.1 F₂ N₁ fun m' vt' h' tk' F' hm' N' => ⟨rfl, [], [], .none, [], p, npb, tp₁, vt', m', h', tk', rfl, F', ⟨_, hm'⟩, N', .eof hr0, fun z => absurd rfl z, hp0, hp1, by rw [hr, hr0]⟩
    · obtain ⟨e1, e2, e3, e4, e5⟩ := next c r' (by rw [hr0]; rfl)
      have hdr : buf.cps.toList.drop (p + 1).toNat = r' := by
        have := hdrop 1
        rw [hr0] at this; exact this
      rcases hs with ⟨t, rfl⟩ | ⟨rfl, hn0⟩
      · rcases hch c (by rw [hr0]; exact .head _) with rfl | hlet
        · exact T3 _ _ _ _ _ _ _ _ _ e2 e1 F₂ N₁ fun m' vt' h' tk' tp' t' hv' F' hm' N' => ⟨rfl, [45], r', _, [], p + 1, npb, tp', vt', m', h', tk', rfl, F', ⟨_, hm'⟩, by rw [dash_is] at N'; exact N', .minus r' t' hr0, fun _ => hv', by omega, by omega, hdr⟩
        · refine T4 _ _ _ _ _ _ _ _ _ c hlet e2 e1 F₂ N₁ fun m' vt' h' tk' tp' t' hv' F' hm' N' => ⟨h', tk', m', _, r.length, rfl, F', N', by omega, 1, _, _, vt', p + 1, tp', rfl, ⟨_, hm'⟩, by omega, by omega, by omega, .inr ⟨by omega, ⟨t', rfl⟩, ?_, hv', ?_⟩⟩
          · rw [hr0]; rfl
          · rw [hr0]; intro c' hc'; simp at hc'; subst hc'; exact lett_ne hlet
      · rw [hn0] at hr0; cases hr0
  · have htl : (⟨(r.take k).toArray⟩ : Str).length = k := by
      show (r.take k).toArray.size = k
      rw [List.size_toArray, List.length_take]; omega
    have hk20 : k ≤ 20 := by omega
    cases hr0 : r.drop k with
    | nil =>
      have hl := last hr0
      have htk : r.take k = r := by rw [hl.2, List.take_length]
      refine T5 _ _ _ _ _ _ _ _ _ p _ hpos hl.1 (by omega) (by omega) hv₁ F₂ N₁ fun m' vt' h' tk' hv' F' hm' N' => ⟨rfl, r, [], .none, [], p, npb, tp₁, vt', m', h', tk', rfl, F', ⟨_, hm'⟩, ?_, .wend ?_ ?_, fun _ => hv', hpos, by omega, by rw [hd, hr0]⟩
      · rw [htk] at N'; exact N'
      · intro e; rw [e] at hl; simp at hl; omega
      · rw [htk] at hlet; exact hlet
    | cons c r' =>
      obtain ⟨e1, e2, e3, e4, e5⟩ := next c r' hr0
      have hmem : c ∈ r := by
        have : c ∈ r.drop k := by rw [hr0]; exact .head _
        exact List.mem_of_mem_drop this
      have hdr : buf.cps.toList.drop (p + 1).toNat = r' := by
        have := hdrop (k + 1)
        rw [e3] at this
        rw [← this]; congr 1; omega
      rcases hch c hmem with rfl | hl
      · refine T6 _ _ _ _ _ _ _ _ _ p _ hpos e2 e1 (by omega) (by omega) hv₁ F₂ N₁ fun m' vt' h' tk' tp' t' t2' npb' hv' hv2' F' hm' N' => ⟨rfl, r.take k, r', _, _, p + 1, npb', tp', vt', m', h', tk', rfl, F', ⟨_, hm'⟩, N', .wminus _ _ t' t2' ?_ hlet ?_ hv2', fun _ => hv', by omega, by omega, hdr⟩
        · intro e; rw [e] at htl; simp [Str.length] at htl; omega
        · rw [← hr0, List.take_append_drop]
      · refine T7 _ _ _ _ _ _ _ _ _ p _ c hl hpos e2 e1 (by omega) (by omega) hv₁ F₂ N₁ fun m' vt' h' tk' tp' t' hv' F' hm' N' => ⟨h', tk', m', _, r.length + 1 - (k + 1), rfl, F', N', by omega, k + 1, _, _, vt', p + 1, tp', rfl, ⟨_, hm'⟩, by omega, e4, rfl, .inr ⟨by omega, ⟨t', rfl⟩, ?_, hv', ?_⟩⟩
        · rw [e5, ← List.toArray_appendList]; rfl
        · rw [e5]; intro c' hc'
          rcases List.mem_append.mp hc' with h | h
          · exact hlet c' h
          · simp at h; subst h; exact lett_ne hl
end
section
variable {w : World} {T : ShT} {x dx io di pb fs : Nat} {t1 t2 t3 tn tb : Tok} {buf : Str} {news : List (Addr × Obj)} {g : Heap} {L : Addr} {s : Shared} {r : List Nat}
variable {A : Around} {E : Value → Shared → Prop} {env : Env}
theorem rt_go {test : Expr} {body : List Stmt} {pos : Pos} {m : Str → Option Value} {st : Value} {p0 npb : Int} {tp te vt : Tok} {Q : Flow → Shared → Prop}
    (F : Fr g L s.heap m) (N : News g L s.heap (shLn w T x dx io di pb fs t1 t2 t3 tn tb buf news st (.str (Str.ofString "") vt) p0 tp [] npb)) (hm : RtM x te m)
    (hp0 : 0 ≤ p0) (hp1 : p0 ≤ buf.length) (hr : buf.cps.toList.drop p0.toNat = r) (hch : ∀ c ∈ r, c = 45 ∨ Lett c)
    (hst : (∃ t, st = .str (Str.ofString " ") t) ∨ (st = .none ∧ r = []))
    (T1 : ∀ Qf Qn h tk m te vt tp, p0 = buf.length → Fr g L h (kstB m (rtPs x te)) → News g L h (shLn w T x dx io di pb fs t1 t2 t3 tn tb buf news .none (.str (Str.ofString "") vt) p0 tp [] npb) →
      (∀ m' vt' h' tk', Fr g L h' m' → RtM x te m' → News g L h' (shLn w T x dx io di pb fs t1 t2 t3 tn tb buf news .none (.str (Str.ofString "") vt') p0 tp [] npb) → Qn .brk { s with heap := h', toks := tk' }) →
      RtTurn w A env test body Qf Qn E { s with heap := h, toks := tk })
    (T2 : ∀ Qf Qn h tk m te vt tp t, p0 = buf.length → Fr g L h (kstB m (rtPs x te)) → News g L h (shLn w T x dx io di pb fs t1 t2 t3 tn tb buf news (.str (Str.ofString " ") t) (.str (Str.ofString "") vt) p0 tp [] npb) →
      (∀ m' vt' h' tk', Fr g L h' m' → RtM x te m' → News g L h' (shLn w T x dx io di pb fs t1 t2 t3 tn tb buf news .none (.str (Str.ofString "") vt') p0 tp [] npb) → Qn .brk { s with heap := h', toks := tk' }) →
      RtTurn w A env test body Qf Qn E { s with heap := h, toks := tk })
    (T3 : ∀ Qf Qn h tk m te vt tp t, p0 < buf.length → buf.cps[p0.toNat]? = some 45 → Fr g L h (kstB m (rtPs x te)) → News g L h (shLn w T x dx io di pb fs t1 t2 t3 tn tb buf news (.str (Str.ofString " ") t) (.str (Str.ofString "") vt) p0 tp [] npb) →
      (∀ m' vt' h' tk' tp' t', TB vt' tk' → Fr g L h' m' → RtM x te m' → News g L h' (shLn w T x dx io di pb fs t1 t2 t3 tn tb buf news (.str (Str.ofString " ") t') (.str (Str.ofString "-") vt') (p0 + 1) tp' [] npb) → Qn .brk { s with heap := h', toks := tk' }) →
      RtTurn w A env test body Qf Qn E { s with heap := h, toks := tk })
    (T4 : ∀ Qf Qn h tk m te vt tp t c, Lett c → p0 < buf.length → buf.cps[p0.toNat]? = some c → Fr g L h (kstB m (rtPs x te)) → News g L h (shLn w T x dx io di pb fs t1 t2 t3 tn tb buf news (.str (Str.ofString " ") t) (.str (Str.ofString "") vt) p0 tp [] npb) →
      (∀ m' vt' h' tk' tp' t', TB vt' tk' → Fr g L h' m' → RtM x te m' → News g L h' (shLn w T x dx io di pb fs t1 t2 t3 tn tb buf news (.str (Str.ofString "a") t') (.str ⟨#[c]⟩ vt') (p0 + 1) tp' [] npb) → Qn .next { s with heap := h', toks := tk' }) →
      RtTurn w A env test body Qf Qn E { s with heap := h, toks := tk })
    (T5 : ∀ Qf Qn h tk m te vt tp t (p : Int) tokS, 0 ≤ p → p = buf.length → 0 < (tokS : Str).length → tokS.length ≤ 20 → TB vt tk → Fr g L h (kstB m (rtPs x te)) → News g L h (shLn w T x dx io di pb fs t1 t2 t3 tn tb buf news (.str (Str.ofString "a") t) (.str tokS vt) p tp [] npb) →
      (∀ m' vt' h' tk', TB vt' tk' → Fr g L h' m' → RtM x te m' → News g L h' (shLn w T x dx io di pb fs t1 t2 t3 tn tb buf news .none (.str tokS vt') p tp [] npb) → Qn .brk { s with heap := h', toks := tk' }) →
      RtTurn w A env test body Qf Qn E { s with heap := h, toks := tk })
    (T6 : ∀ Qf Qn h tk m te vt tp t (p : Int) tokS, 0 ≤ p → p < buf.length → buf.cps[p.toNat]? = some 45 → 0 < (tokS : Str).length → tokS.length ≤ 20 → TB vt tk → Fr g L h (kstB m (rtPs x te)) → News g L h (shLn w T x dx io di pb fs t1 t2 t3 tn tb buf news (.str (Str.ofString "a") t) (.str tokS vt) p tp [] npb) →
      (∀ m' vt' h' tk' tp' t' t2' npb', TB vt' tk' → TB t2' tk' → Fr g L h' m' → RtM x te m' → News g L h' (shLn w T x dx io di pb fs t1 t2 t3 tn tb buf news (.str (Str.ofString " ") t') (.str tokS vt') (p + 1) tp' [.str ⟨#[45]⟩ t2'] npb') → Qn .brk { s with heap := h', toks := tk' }) →
      RtTurn w A env test body Qf Qn E { s with heap := h, toks := tk })
    (T7 : ∀ Qf Qn h tk m te vt tp t (p : Int) tokS c, Lett c → 0 ≤ p → p < buf.length → buf.cps[p.toNat]? = some c → 0 < (tokS : Str).length → tokS.length ≤ 20 → TB vt tk → Fr g L h (kstB m (rtPs x te)) → News g L h (shLn w T x dx io di pb fs t1 t2 t3 tn tb buf news (.str (Str.ofString "a") t) (.str tokS vt) p tp [] npb) →
      (∀ m' vt' h' tk' tp' t', TB vt' tk' → Fr g L h' m' → RtM x te m' → News g L h' (shLn w T x dx io di pb fs t1 t2 t3 tn tb buf news (.str (Str.ofString "a") t') (.str (tokS ++ ⟨#[c]⟩) vt') (p + 1) tp' [] npb) → Qn .next { s with heap := h', toks := tk' }) →
      RtTurn w A env test body Qf Qn E { s with heap := h, toks := tk })
    (hlen : (buf.length : Int) ≤ 20) (hE : PassesOwn (model PG w) A env E)
    (tail : ∀ tok r' st' pbs' p' npb' tp' vt m' h' tk' te, Fr g L h' (kstB m' (rtPs x te)) →
      News g L h' (shLn w T x dx io di pb fs t1 t2 t3 tn tb buf news st' (.str ⟨List.toArray tok⟩ vt) p' tp' pbs' npb') → RtPost tk' r tok r' st' pbs' → (tok ≠ [] → TB vt tk') → 0 ≤ p' → p' ≤ (buf.length : Int) → buf.cps.toList.drop p'.toNat = r' → Q .next { s with heap := h', toks := tk' }) :
    wpAny (model PG w) A (exec (.While test body [] pos) env) Q E s := by
  refine wpAny_mono (rt_while F N hm hp0 hp1 hr hch hst T1 T2 T3 T4 T5 T6 T7 hlen hE) (fun f s' h => ?_) (fun _ _ z => z)
  obtain ⟨rfl, tok, r', st', pbs', p', npb', tp', vt', m', h', tk', rfl, F', ⟨te', hm'⟩, N', a1, a0, a2, a3, a4⟩ := h
  exact tail tok r' st' pbs' p' npb' tp' vt' m' h' tk' te' (fr_b F' hm'.all) N' a1 a0 a2 a3 a4
end
section
variable {w : World} {loose : List Str} {mean : ExcName → Option Value} {mg mb : Str → Option Value} {news : List (Addr × Obj)} {dp un : Nat} {gd : Option (List Code)} {cn : Str} {nm : List (Str × NameKind)} {ig ic : Bool} {mo : List (Str × Const)} {a : Addr} {ccd : Value} {cl : List (Str × Addr)} {outer : List Env} {A₀ : Around} {base h₀ : Heap} {L : Addr} {m : Str → Option Value} {s : Shared} {Q E : Value → Shared → Prop}
theorem c_rt {x dx io di pb fs : Nat} {t1 t2 t3 tn tb tp vtok : Tok} {T₁ : ShT} {buf : Str} {r : List Nat} {st : Value} {p npb : Int}
    (B : Below A₀ base outer h₀) (F : Fr h₀ L s.heap m) (X : (hd.heap_39 w.params).In h₀)
    (N : News h₀ L s.heap (shLn w T₁ x dx io di pb fs t1 t2 t3 tn tb buf news st (.str (Str.ofString "") vtok) p tp [] npb)) (T : Top hd.view_39 loose mean mg mb h₀)
    (hlen : (buf.length : Int) ≤ 20) (hp0 : 0 ≤ p) (hp1 : p ≤ buf.length) (hr : buf.cps.toList.drop p.toNat = r) (hch : ∀ c ∈ r, c = 45 ∨ Lett c)
    (hst : (∃ t, st = .str (Str.ofString " ") t) ∨ (st = .none ∧ r = []))
    (o1 : dx < x) (o2 : x < di) (o3 : di < io) (o4 : io < pb) (o5 : pb < fs) (n1 : ∀ p ∈ news, p.1 ≠ dx) (n2 : ∀ p ∈ news, p.1 ≠ di) (n3 : ∀ p ∈ news, p.1 ≠ pb) (hdp : dp + 12 < recursionLimit) (hun : un + 70 < cLine)
    (ret : ∀ tok r' st' pbs' p' npb' tp' vtok' tr h' tk', Fr h₀ L h' m →
      News h₀ L h' (shLn w T₁ x dx io di pb fs t1 t2 t3 tn tb buf news st' (.str (Str.ofString "") vtok') p' tp' pbs' npb') →
      RtPost tk' r tok r' st' pbs' → (tok ≠ [] → TB tr tk') → 0 ≤ p' → p' ≤ buf.length → buf.cps.toList.drop p'.toNat = r' → Q (.str ⟨tok.toArray⟩ tr) { s with heap := h', toks := tk' }) :
    wpAny (model PG w) (ktrTop dp un gd cn ⟨.function, nm, ig, ic, mo⟩ L a ccd cl outer) (call (.ref 739) [.ref x]) Q E s := by
  repeat' (first | (k_unfold; (try dsimp only)) | ((fail_if_success (with_reducible show wpAny _ _ (exec (Stmt.While _ _ _ _) _) _ _ _)); first | walk1 | (dsimp only; walk1)))
  refine' rt_go ?F ?N ?hm hp0 hp1 hr hch hst ?T1 ?T2 ?T3 ?T4 ?T5 ?T6 ?T7 hlen ?hE ?tail
  case F => k_asm
  case N => k_asm
  case hm => exact RtM.mk (by rfl) (by rfl) (by rfl)
  case hE => passes_own
  case T1 =>
    intro Qf Qn h tk m te vt tp hp F1 N1 ret
    k_steps
    refine' ret _ _ _ _ ?F ?hm ?N
    case F => k_asm
    case N => k_asm
    case hm => exact RtM.mk (by rfl) (by rfl) (by rfl)
  case T2 =>
    intro Qf Qn h tk m te vt tp t hp F1 N1 ret
    k_steps
    refine' ret _ _ _ _ ?F ?hm ?N
    case F => k_asm
    case N => k_asm
    case hm => exact RtM.mk (by rfl) (by rfl) (by rfl)
  case T3 =>
    intro Qf Qn h tk m te vt tp t hp hc F1 N1 ret
    k_steps
    refine' ret _ _ _ _ _ _ ?hv ?F ?hm ?N
    case F => k_asm
    case N => k_asm
    case hm => exact RtM.mk (by rfl) (by rfl) (by rfl)
    case hv => walk_at "tb"
  case T4 =>
    intro Qf Qn h tk m te vt tp t c hL hp hc F1 N1 ret
    k_steps
    refine' ret _ _ _ _ _ _ ?hv ?F ?hm ?N
    case F => k_asm
    case N => k_asm
    case hm => exact RtM.mk (by rfl) (by rfl) (by rfl)
    case hv => walk_at "tb"
  case T5 =>
    intro Qf Qn h tk m te vt tp t p tokS h0 hp hl1 hl2 hv F1 N1 ret
    k_steps
    refine' ret _ _ _ _ ?hv ?F ?hm ?N
    case F => k_asm
    case N => exact news_tl (by k_asm)
    case hm => exact RtM.mk (by rfl) (by rfl) (by rfl)
    case hv => walk_at "tb"
  case T6 =>
    intro Qf Qn h tk m te vt tp t p tokS h0 hp hc hl1 hl2 hv F1 N1 ret
    k_steps
    refine' ret _ _ _ _ _ _ _ _ ?hv ?hv2 ?F ?hm ?N
    case F => k_asm
    case N => exact news_tl (by k_asm)
    case hm => exact RtM.mk (by rfl) (by rfl) (by rfl)
    case hv => walk_at "tb"
    case hv2 => walk_at "tb"
  case T7 =>
    intro Qf Qn h tk m te vt tp t p tokS c hL h0 hp hc hl1 hl2 hv F1 N1 ret
    k_steps
    refine' ret _ _ _ _ _ _ ?hv ?F ?hm ?N
    case F => k_asm
    case N => exact news_tl (by k_asm)
    case hm => exact RtM.mk (by rfl) (by rfl) (by rfl)
    case hv => walk_at "tb"
  case tail =>
    intro tok r' st' pbs' p' npb' tp' vt m' h' tk' te F1 N1 hpost hv h0 h1 h2
    (try k_unfold)
    (try dsimp only)
    k_steps
    exact ret _ _ _ _ _ _ _ _ _ _ _ (by k_asm) (by k_asm) (hpost.up (by walk_at "tb")) (fun z => (hv z).up (LeT.out (by walk_at "tb"))) h0 h1 h2
end
theorem RtPost.two {k : Nat} {r tok r' : List Nat} {st' : Value} {pbs' : List Value} (h : RtPost k r tok r' st' pbs') : (tok = [] ∧ r = [] ∧ r' = [] ∧ st' = .none ∧ pbs' = []) ∨ tok ≠ [] := by
  cases h with
  | eof h => exact .inl ⟨rfl, h, rfl, rfl, rfl⟩
  | minus r' t h => exact .inr (by simp)
  | wend h _ => exact .inr h
  | wminus u r' t t2 h _ _ => exact .inr h
theorem eq_tok {prog : Program} {w : World} {A : Around} {E : Value → Shared → Prop} {s : Shared} {tok : List Nat} {t u : Tok} {Q : Value → Shared → Prop} (hn : tok ≠ []) (h : Q (.bool false) s) :
    wpAny (model prog w) A (compareOp .Eq (.str ⟨tok.toArray⟩ t) (.str (Str.ofString "") u)) Q E s := by
  refine PyProof.Rows.eq_str ?_
  have e : ((⟨tok.toArray⟩ : Str) == Str.ofString "") = false := by
    rw [show Str.ofString "" = ⟨#[]⟩ from by decide +kernel]
    cases tok with
    | nil => exact absurd rfl hn
    | cons c r => exact beq_eq_false_iff_ne.mpr (fun e => by injection e with e; simp at e)
  rw [e]; exact h
theorem dq_truthy0 {prog : Program} {w : World} {A : Around} {E : Value → Shared → Prop} {s : Shared} {q : Addr} {n : Int} {Q : Bool → Shared → Prop} (hq : s.heap.get? q = some (dqObj [] n)) (h : Q false { s with toks := s.toks + 1 + 1 }) :
    wpAny (model prog w) A (truthy (.ref q)) Q E s := dq_truthy hq (by decide) h
theorem dq_truthy1 {prog : Program} {w : World} {A : Around} {E : Value → Shared → Prop} {s : Shared} {q : Addr} {n : Int} {v : Value} {Q : Bool → Shared → Prop} (hq : s.heap.get? q = some (dqObj [v] n)) (h : Q true { s with toks := s.toks + 1 + 1 }) :
    wpAny (model prog w) A (truthy (.ref q)) Q E s := dq_truthy hq (by show (1 : Int) < 2 ^ 63; decide) h
theorem owit_stopX {M : Model} {A : Around} {E : Value → Shared → Prop} {s : Shared} {h₀ : Heap} {L : Addr} {m : Str → Option Value} {Q : Option Value → Shared → Prop} {outer : List Env} {a e t : Addr} {h : Heap} {name : Str} {scope : Scope} {cd : Value} {cl : List (Str × Addr)} {vs : List Value} {news : List (Addr × Obj)} {X : String}
    (R : RaisedK h₀ (envX name scope L a cd cl :: outer) e (.type X) t vs news s.heap) (hsm : h.UpToSlots s.heap) (F : Fr h₀ L h m) (hsub : isSubtype (.type X) (.type "StopIteration") = pure true)
    (k : Fr h₀ L s.heap m → News h₀ L s.heap news → Q none s) : OwitStop M A Q E (.ref e) s := by
  obtain ⟨⟨B, hB, hl, hfl, _⟩, _⟩ := R
  have hL : B.get? L = none := by
    obtain ⟨_, ⟨L', _, hf, hn', _⟩, _⟩ := hfl.2.2.1
    obtain rfl : L = L' := Option.some.inj hf
    exact hn'
  have hf' := flyingW_base hB hfl
  obtain ⟨ob, hob, hobc⟩ := hf'.there
  have hT : s.TypeIs (.ref e) X := (show ∃ o, s.heap.get? e = some o ∧ o.cls = .type X from ⟨ob, hob, hobc⟩)
  unfold OwitStop
  refine wpAny_isInstance hT hsub ?_
  show (if true = true then Q none s else E (.ref e) s)
  rw [if_pos rfl]
  exact k (F.of_stays hf'.1 hsm) fun q hq => ⟨hfl.1 _ _ (hl q hq).1, (fun z => by have := (hl q hq).1; rw [z, hL] at this; cases this), (hl q hq).2⟩
theorem stop_sub : isSubtype (.type "StopIteration") (.type "StopIteration") = pure true := by rw [isSubtype_type]; kernel_rfl
local macro_rules | `(tactic| walk_at "call ref") => `(tactic| (k_here; k_dflt ((with_reducible show wpAny _ _ (call (Value.ref 739) _ _) _ _ _); refine' c_rt ?B ?F ?X ?N ?T ?l ?p0 ?p1 ?hr ?hc ?hs ?o1 ?o2 ?o3 ?o4 ?o5 ?n1 ?n2 ?n3 ?d ?u ?_; (case B => k_asm); (case F => k_asm); (case X => k_asm); (case N => k_asm); (case T => k_asm); (case l => assumption); (case p0 => assumption); (case p1 => assumption); (case hr => assumption); (case hc => assumption); (case hs => assumption); (case o1 => assumption); (case o2 => assumption); (case o3 => assumption); (case o4 => assumption); (case o5 => assumption); (case n1 => assumption); (case n2 => assumption); (case n3 => assumption); (case d => k_room); (case u => ktr_units); k_whole; intro tok' r' st' pbs' p' npb' tp' vt' tr' h' tk' F' N' hpost' hv' q0' q1' q2'; (rcases RtPost.two hpost' with ⟨e1', e2', e3', e4', e5'⟩ | htok'); (all_goals (try (subst e1' e3' e4' e5'))); (try k_sweep))))
local macro_rules | `(tactic| walk_at "compareOp Eq str str") => `(tactic| (k_here; with_reducible refine eq_tok (by assumption) ?_))
local macro_rules | `(tactic| walk_at "truthy ref") => `(tactic| (k_here; k_dflt (first
  | (refine' dq_truthy0 (News.get ?N ?M) ?_; (case N => k_asm); (case M => k_mem); k_whole)
  | (refine' dq_truthy1 (News.get ?N ?M) ?_; (case N => k_asm); (case M => k_mem); k_whole))))
section
variable {w : World} {loose : List Str} {mean : ExcName → Option Value} {mg mb : Str → Option Value} {news : List (Addr × Obj)} {dp un : Nat} {gd : Option (List Code)} {cn : Str} {nm : List (Str × NameKind)} {ig ic : Bool} {mo : List (Str × Const)} {a : Addr} {ccd : Value} {cl : List (Str × Addr)} {outer : List Env} {A₀ : Around} {base h₀ : Heap} {L : Addr} {m : Str → Option Value} {s : Shared} {Q : Option Value → Shared → Prop} {E : Value → Shared → Prop}
theorem c_next_pb {x dx io di pb fs : Nat} {t1 t2 t3 tn tb tp vtok t9 : Tok} {T₁ : ShT} {buf : Str} {st : Value} {p npb : Int}
    (B : Below A₀ base outer h₀) (F : Fr h₀ L s.heap m) (X : (hd.heap_39 w.params).In h₀)
    (N : News h₀ L s.heap (shLn w T₁ x dx io di pb fs t1 t2 t3 tn tb buf news st (.str (Str.ofString "") vtok) p tp [.str ⟨#[45]⟩ t9] npb)) (T : Top hd.view_39 loose mean mg mb h₀)
    (ht9 : TB t9 s.toks) (o1 : dx < x) (o2 : x < di) (o3 : di < io) (o4 : io < pb) (o5 : pb < fs) (n1 : ∀ p ∈ news, p.1 ≠ dx) (n2 : ∀ p ∈ news, p.1 ≠ di) (n3 : ∀ p ∈ news, p.1 ≠ pb) (hdp : dp + 20 < recursionLimit) (hun : un + 120 < cLine)
    (ret : ∀ npb' t h' tk', TB t tk' → Fr h₀ L h' m → News h₀ L h' (shLn w T₁ x dx io di pb fs t1 t2 t3 tn tb buf news st (.str (Str.ofString "") vtok) p tp [] npb') →
      Q (some (.str ⟨#[45]⟩ t)) { s with heap := h', toks := tk' }) :
    wpAny (model PG w) (ktrTop dp un gd cn ⟨.function, nm, ig, ic, mo⟩ L a ccd cl outer) (pyNext (.ref x)) Q E s := by
  refine' owit_next F X ?I ?hs ?hf ?_
  case I => k_inst
  case hs => k_is
  case hf => k_is
  k_steps
  rw [dash_is]
  exact ret _ _ _ _ (by walk_at "tb") (by k_asm) (by k_asm)
theorem c_next_rd {x dx io di pb fs : Nat} {t1 t2 t3 tn tb tp vtok : Tok} {T₁ : ShT} {buf : Str} {st : Value} {r : List Nat} {p npb : Int}
    (B : Below A₀ h₀ outer h₀) (F : Fr h₀ L s.heap m) (X : (hd.heap_39 w.params).In h₀)
    (N : News h₀ L s.heap (shLn w T₁ x dx io di pb fs t1 t2 t3 tn tb buf news st (.str (Str.ofString "") vtok) p tp [] npb)) (T : Top hd.view_39 loose mean mg mb h₀)
    (hlen : (buf.length : Int) ≤ 20) (hp0 : 0 ≤ p) (hp1 : p ≤ buf.length) (hr : buf.cps.toList.drop p.toNat = r) (hch : ∀ c ∈ r, c = 45 ∨ Lett c)
    (hst : (∃ t, st = .str (Str.ofString " ") t) ∨ (st = .none ∧ r = []))
    (o1 : dx < x) (o2 : x < di) (o3 : di < io) (o4 : io < pb) (o5 : pb < fs) (n1 : ∀ p ∈ news, p.1 ≠ dx) (n2 : ∀ p ∈ news, p.1 ≠ di) (n3 : ∀ p ∈ news, p.1 ≠ pb) (hdp : dp + 20 < recursionLimit) (hun : un + 120 < cLine)
    (ret : ∀ tok r' st' pbs' p' npb' tp' vtok' tr h' tk', Fr h₀ L h' m →
      News h₀ L h' (shLn w T₁ x dx io di pb fs t1 t2 t3 tn tb buf news st' (.str (Str.ofString "") vtok') p' tp' pbs' npb') →
      RtPost tk' r tok r' st' pbs' → tok ≠ [] → TB tr tk' → 0 ≤ p' → p' ≤ buf.length → buf.cps.toList.drop p'.toNat = r' → Q (some (.str ⟨tok.toArray⟩ tr)) { s with heap := h', toks := tk' })
    (stop : r = [] → ∀ h' tk', Fr h₀ L h' m → News h₀ L h' news → Q none { s with heap := h', toks := tk' }) :
    wpAny (model PG w) (ktrTop dp un gd cn ⟨.function, nm, ig, ic, mo⟩ L a ccd cl outer) (pyNext (.ref x)) Q E s := by
  refine' owit_next F X ?I ?hs ?hf ?_
  case I => k_inst
  case hs => k_is
  case hf => k_is
  k_steps
  · (rename RaisedK _ _ _ _ _ _ _ _ => rk)
    (rename Heap.UpToSlots _ _ => us)
    exact owit_stopX rk us (by k_asm) stop_sub fun F9 N9 => stop (by assumption) _ _ F9 (fun p hp => N9 p (.tail _ (.tail _ (.tail _ (.tail _ (.tail _ (.tail _ hp)))))))
  · exact ret _ _ _ _ _ _ _ _ _ _ _ (by k_asm) (by k_asm) ((by assumption : RtPost _ _ _ _ _ _).up (by walk_at "tb")) (by assumption) (((by assumption : _ → TB _ _) (by assumption)).up (LeT.out (by walk_at "tb"))) (by assumption) (by assumption) (by assumption)
end
def lexT : List Nat → List (List Nat)
  | [] => []
  | c :: r => if c = 45 then [45] :: lexT r else
      match lexT r with
      | (d :: w) :: ws => if d = 45 then [c] :: (d :: w) :: ws else (c :: d :: w) :: ws
      | l => [c] :: l
theorem lexT_word {r : List Nat} (hn : r ≠ []) (hl : ∀ c ∈ r, c ≠ 45) : lexT r = [r] := by
  induction r with
  | nil => exact absurd rfl hn
  | cons c r ih =>
    have hc : c ≠ 45 := hl c (.head _)
    cases r with
    | nil => simp [lexT, hc]
    | cons d w =>
      have h := ih (by simp) fun x hx => hl x (.tail _ hx)
      have hd : d ≠ 45 := hl d (.tail _ (.head _))
      rw [lexT, if_neg hc, h]
      simp [hd]
theorem lexT_minus (u r' : List Nat) (hn : u ≠ []) (hl : ∀ c ∈ u, c ≠ 45) : lexT (u ++ 45 :: r') = u :: [45] :: lexT r' := by
  induction u with
  | nil => exact absurd rfl hn
  | cons c u ih =>
    have hc : c ≠ 45 := hl c (.head _)
    cases u with
    | nil =>
      show lexT (c :: 45 :: r') = _
      rw [lexT, if_neg hc]
      simp [lexT]
    | cons d w =>
      have h := ih (by simp) fun x hx => hl x (.tail _ hx)
      have hd : d ≠ 45 := hl d (.tail _ (.head _))
      show lexT (c :: (d :: w ++ 45 :: r')) = _
      rw [lexT, if_neg hc, h]
      simp [hd]
theorem lexT_nil {r : List Nat} (h : lexT r = []) : r = [] := by
  cases r with
  | nil => rfl
  | cons c r =>
    rw [lexT] at h
    split at h
    · cases h
    · split at h
      · split at h <;> cases h
      · cases h
section
variable (w : World) (T : ShT) (x dx io di pb fs : Nat) (t1 t2 t3 tn tb : Tok) (buf : Str) (news : List (Addr × Obj))
def LexSt (k : Nat) (ts : List (List Nat)) (nx : List (Addr × Obj)) : Prop :=
  ∃ (st : Value) (p : Int) (tp : Tok) (pbs : List Value) (npb : Int) (vtok : Tok) (r : List Nat), nx = shLn w T x dx io di pb fs t1 t2 t3 tn tb buf news st (.str (Str.ofString "") vtok) p tp pbs npb ∧ 0 ≤ p ∧ p ≤ (buf.length : Int) ∧ buf.cps.toList.drop p.toNat = r ∧
    (∀ c ∈ r, c = 45 ∨ Lett c) ∧ ((∃ t, st = .str (Str.ofString " ") t) ∨ (st = .none ∧ r = [])) ∧ ((pbs = [] ∧ ts = lexT r) ∨ (∃ t, TB t k ∧ pbs = [.str ⟨#[45]⟩ t] ∧ ts = [45] :: lexT r))
theorem LexSt.up {w : World} {T : ShT} {x dx io di pb fs : Nat} {t1 t2 t3 tn tb : Tok} {buf : Str} {news : List (Addr × Obj)} {k k' : Nat} {ts : List (List Nat)} {nx : List (Addr × Obj)} (h : LexSt w T x dx io di pb fs t1 t2 t3 tn tb buf news k ts nx) (hk : k ≤ k') : LexSt w T x dx io di pb fs t1 t2 t3 tn tb buf news k' ts nx := by
  obtain ⟨st, p, tp, pbs, npb, vtok, r, e, h0, h1, h2, h3, h4, h5⟩ := h
  refine ⟨st, p, tp, pbs, npb, vtok, r, e, h0, h1, h2, h3, h4, h5.imp id ?_⟩
  rintro ⟨t, a, b, c⟩
  exact ⟨t, a.up hk, b, c⟩
end
section
variable {w : World} {loose : List Str} {mean : ExcName → Option Value} {mg mb : Str → Option Value} {news : List (Addr × Obj)} {dp un : Nat} {gd : Option (List Code)} {cn : Str} {nm : List (Str × NameKind)} {ig ic : Bool} {mo : List (Str × Const)} {a : Addr} {ccd : Value} {cl : List (Str × Addr)} {outer : List Env} {A₀ : Around} {base h₀ : Heap} {L : Addr} {m : Str → Option Value} {s : Shared} {Q : Option Value → Shared → Prop} {E : Value → Shared → Prop}
theorem c_next {x dx io di pb fs : Nat} {t1 t2 t3 tn tb : Tok} {T₁ : ShT} {buf : Str} {ts : List (List Nat)} {nx : List (Addr × Obj)}
    (B : Below A₀ h₀ outer h₀) (F : Fr h₀ L s.heap m) (X : (hd.heap_39 w.params).In h₀) (N : News h₀ L s.heap nx) (T : Top hd.view_39 loose mean mg mb h₀)
    (hL : LexSt w T₁ x dx io di pb fs t1 t2 t3 tn tb buf news s.toks ts nx) (hlen : (buf.length : Int) ≤ 20)
    (o1 : dx < x) (o2 : x < di) (o3 : di < io) (o4 : io < pb) (o5 : pb < fs) (n1 : ∀ p ∈ news, p.1 ≠ dx) (n2 : ∀ p ∈ news, p.1 ≠ di) (n3 : ∀ p ∈ news, p.1 ≠ pb) (hdp : dp + 20 < recursionLimit) (hun : un + 120 < cLine)
    (more : ∀ tk ts' nx' t h' tk', ts = tk :: ts' → TB t tk' → s.toks ≤ tk' → Fr h₀ L h' m → News h₀ L h' nx' → LexSt w T₁ x dx io di pb fs t1 t2 t3 tn tb buf news tk' ts' nx' → Q (some (.str ⟨tk.toArray⟩ t)) { s with heap := h', toks := tk' })
    (stop : ts = [] → ∀ h' tk', s.toks ≤ tk' → Fr h₀ L h' m → News h₀ L h' news → Q none { s with heap := h', toks := tk' }) :
    wpAny (model PG w) (ktrTop dp un gd cn ⟨.function, nm, ig, ic, mo⟩ L a ccd cl outer) (pyNext (.ref x)) Q E s := by
  obtain ⟨st, p, tp, pbs, npb, vtok, r, rfl, h0, h1, hr, hch, hst, hts⟩ := hL
  refine wpAny_with_toks (Nat.le_refl _) ?_
  rcases hts with ⟨rfl, rfl⟩ | ⟨t, ht9, rfl, rfl⟩
  · refine c_next_rd B F X N T hlen h0 h1 hr hch hst o1 o2 o3 o4 o5 n1 n2 n3 hdp hun (fun tok r' st' pbs' p' npb' tp' vtok' tr h' tk' F' N' hp htok htr a0 a1 hr' hle => ?_) (fun e h' tk' F' N' hle => stop (by rw [e]; rfl) h' tk' hle F' N')
    have hch' : ∀ c ∈ r', c = 45 ∨ Lett c := by
      have hsub : ∀ c ∈ r', c ∈ r := by
        cases hp with
        | eof h => intro c hc; cases hc
        | minus r' t h => intro c hc; rw [h]; exact .tail _ hc
        | wend h _ => intro c hc; cases hc
        | wminus u r' t t2 h _ e _ => intro c hc; rw [e]; exact List.mem_append_right _ (.tail _ hc)
      exact fun c hc => hch c (hsub c hc)
    cases hp with
    | eof h => exact absurd rfl htok
    | minus r' t h => exact more [45] _ _ _ _ _ (by rw [h]; simp [lexT]) htr hle F' N' ⟨_, _, _, _, _, _, _, rfl, a0, a1, hr', hch', .inl ⟨_, rfl⟩, .inl ⟨rfl, rfl⟩⟩
    | wend h hl => exact more _ [] _ _ _ _ (lexT_word h hl) htr hle F' N' ⟨_, _, _, _, _, _, _, rfl, a0, a1, hr', hch', .inr ⟨rfl, rfl⟩, .inl ⟨rfl, rfl⟩⟩
    | wminus u r' t t2 h hl e ht2 => exact more _ ([45] :: lexT r') _ _ _ _ (by rw [e]; exact lexT_minus _ _ h hl) htr hle F' N' ⟨_, _, _, _, _, _, _, rfl, a0, a1, hr', hch', .inl ⟨_, rfl⟩, .inr ⟨_, ht2, rfl, rfl⟩⟩
  · exact c_next_pb B F X N T ht9 o1 o2 o3 o4 o5 n1 n2 n3 hdp hun fun npb' t' h' tk' ht' F' N' hle => more [45] _ _ _ _ _ rfl ht' hle F' N' ⟨_, _, _, _, _, _, _, rfl, h0, h1, hr, hch, hst, .inl ⟨rfl, rfl⟩⟩
end
theorem news_in6 {h₀ h : Heap} {L : Addr} {q p1 p2 p3 p4 p5 p6 : Addr × Obj} {news : List (Addr × Obj)} (N : News h₀ L h (q :: p1 :: p2 :: p3 :: p4 :: p5 :: p6 :: news)) : News h₀ L h (p1 :: p2 :: p3 :: p4 :: p5 :: p6 :: q :: news) :=
  fun p hp => N p (by simp only [List.mem_cons] at hp ⊢; rcases hp with h | h | h | h | h | h | h | h <;> simp [h])
theorem upd_seq {M : Model} {A : Around} {E : Value → Shared → Prop} {s : Shared} {h₀ : Heap} {L S : Addr} {m : Str → Option Value} {pre post : List (Addr × Obj)} {xs ys : Array Value} {c : Nat} {f : Array Value → Array Value} {Q : Unit → Shared → Prop}
    (F : Fr h₀ L s.heap m) (N : News h₀ L s.heap (pre ++ (S, listOf xs c) :: post)) (h1 : ∀ p ∈ pre, p.1 ≠ S) (h2 : ∀ p ∈ post, p.1 ≠ S) (hf : f xs = ys) (hz : xs.size ≤ 1000) (hz' : ys.size ≤ 1000)
    (h : ∀ h' c', Fr h₀ L h' m → News h₀ L h' (pre ++ (S, listOf ys c') :: post) → Q () { s with heap := h' }) : wpAny M A (updateSeq S f) Q E s := by
  have hS := (N (S, listOf xs c) (by simp)).1
  obtain ⟨F2, N2⟩ := news_upd (f := Obj.mapSeq f) F N h1 h2 (o' := listOf ys (if ys.size == xs.size then c else c + 1)) (by subst hf; rfl) rfl
  exact wpAny_updateSeq hS rfl (h _ _ F2 N2) (by rw [sizeLine_eq]; omega) (by rw [sizeLine_eq, hf]; omega)
section
variable {w : World} {loose : List Str} {mean : ExcName → Option Value} {mg mb : Str → Option Value} {news : List (Addr × Obj)} {un : Nat} {dp : Nat} {gd : Option (List Code)} {cn : Str} {nm : List (Str × NameKind)} {ig ic : Bool} {mo : List (Str × Const)} {a : Addr} {ccd : Value} {cl : List (Str × Addr)} {outer : List Env} {A₀ : Around} {base h₀ : Heap} {L : Addr} {m : Str → Option Value} {E : Value → Shared → Prop}
theorem ext_loop {x dx io di pb fs S : Nat} {t1 t2 t3 tn tb : Tok} {T₁ : ShT} {buf : Str} {res : Value} {R : Result → Shared → Prop}
    (B : Below A₀ h₀ outer h₀) (X : (hd.heap_39 w.params).In h₀) (T : Top hd.view_39 loose mean mg mb h₀) (hlen : (buf.length : Int) ≤ 20)
    (o1 : dx < x) (o2 : x < di) (o3 : di < io) (o4 : io < pb) (o5 : pb < fs) (o6 : fs < S) (n1 : ∀ p ∈ news, p.1 ≠ dx) (n2 : ∀ p ∈ news, p.1 ≠ di) (n3 : ∀ p ∈ news, p.1 ≠ pb) (n4 : ∀ p ∈ news, p.1 ≠ S) (hdp : dp + 20 < recursionLimit) (hun : un + 130 < cLine) :
    ∀ (ts : List (List Nat)) (s : Shared) (vs : List Value) (ys : List (List Nat)) (c : Nat) (nx : List (Addr × Obj)), ts.length + vs.length ≤ 900 → StrsP s.toks vs ys →
      Fr h₀ L s.heap m → News h₀ L s.heap nx → LexSt w T₁ x dx io di pb fs t1 t2 t3 tn tb buf ((S, listOf vs.toArray c) :: news) s.toks ts nx →
      (∀ vs' c' h' tk', StrsP tk' vs' (ys ++ ts) → s.toks ≤ tk' → Fr h₀ L h' m → News h₀ L h' ((S, listOf vs'.toArray c') :: news) → R (.ok (.ret res)) { s with heap := h', toks := tk' }) →
      codeAny (model PG w) (ktrTop dp un gd cn ⟨.function, nm, ig, ic, mo⟩ L a ccd cl outer) (.builtin "list.extend.loop" ⟨[.ref S, .ref x, res], []⟩) R s := by
  intro ts
  induction ts with
  | nil =>
    intro s vs ys c nx hsz hv F N hL hR
    refine codeAny_builtin PySem.F.entry_extend_loop ?_
    rw [Around.under_plainId PySem.F.plain_extend_loop _]
    show wpAny _ _ (pyNext (.ref x) >>= _) _ _ s
    refine wpAny_bind (c_next (un := un + 1) B F X N T hL hlen o1 o2 o3 o4 o5 (ne_cons (by omega) n1) (ne_cons (by omega) n2) (ne_cons (by omega) n3) hdp (by omega) (fun tk ts' nx' t h' tk' e => by cases e) fun _ h' tk' hle F' N' => wpAny_pure (hR vs c h' tk' (by simpa using hv.up hle) hle F' N'))
  | cons tk ts ih =>
    intro s vs ys c nx hsz hv F N hL hR
    refine codeAny_builtin PySem.F.entry_extend_loop ?_
    rw [Around.under_plainId PySem.F.plain_extend_loop _]
    show wpAny _ _ (pyNext (.ref x) >>= _) _ _ s
    refine wpAny_bind (c_next (un := un + 1) B F X N T hL hlen o1 o2 o3 o4 o5 (ne_cons (by omega) n1) (ne_cons (by omega) n2) (ne_cons (by omega) n3) hdp (by omega) (fun tk' ts' nx' t h' tk9 e ht hle F' N' hL' => ?_) (fun e => by cases e))
    injection e with e1 e2
    subst e1 e2
    show wpAny _ _ (updateSeq S (fun z => z.push (Value.str ⟨tk.toArray⟩ t)) >>= _) _ _ _
    obtain ⟨st, p, tp, pbs, npb, vtok, r, rfl, rest⟩ := hL'
    have N2 : News h₀ L h' ([_, _, _, _, _, _] ++ (S, listOf vs.toArray c) :: news) := N'
    simp only [List.length_cons] at hsz
    refine wpAny_bind (upd_seq (ys := (vs ++ [Value.str ⟨tk.toArray⟩ t]).toArray) F' N2 ?_ n4 (by simp) (by rw [List.size_toArray]; omega) (by simp; omega) fun h2 c2 F2 N3 => ?_)
    · simp only [List.forall_mem_cons]
      exact ⟨Nat.ne_of_lt (by omega), Nat.ne_of_lt (by omega), Nat.ne_of_lt (by omega), Nat.ne_of_lt (by omega), Nat.ne_of_lt (by omega), Nat.ne_of_lt (by omega), fun _ h => nomatch h⟩
    · refine wpAny_pure ⟨plainId_quiet PySem.F.plain_extend_loop _, ih _ (vs ++ [Value.str ⟨tk.toArray⟩ t]) (ys ++ [tk]) c2 _ (by simp only [List.length_append, List.length_cons, List.length_nil]; omega) (strsP_snoc (hv.up hle) _ _ ht) F2 N3 ⟨st, p, tp, pbs, npb, vtok, r, rfl, rest⟩ fun vs' c' h3 tk3 hv' hle3 F3 N4 => hR vs' c' h3 tk3 (by simpa using hv') (Nat.le_trans hle hle3) F3 N4⟩
end
section
variable {w : World} {loose : List Str} {mean : ExcName → Option Value} {mg mb : Str → Option Value} {news : List (Addr × Obj)} {un : Nat} {dp : Nat} {gd : Option (List Code)} {cn : Str} {nm : List (Str × NameKind)} {ig ic : Bool} {mo : List (Str × Const)} {a : Addr} {ccd : Value} {cl : List (Str × Addr)} {outer : List Env} {A₀ : Around} {base h₀ : Heap} {L : Addr} {m : Str → Option Value} {s : Shared} {Q E : Value → Shared → Prop}
theorem c_iter {x dx : Nat} {es : List DictEntry} {n : Nat} {nx : List (Addr × Obj)} (B : Below A₀ base outer h₀) (F : Fr h₀ L s.heap m) (X : (hd.heap_39 w.params).In h₀) (N : News h₀ L s.heap ((x, instObj 771 dx) :: (dx, dictOf es n) :: nx)) (T : Top hd.view_39 loose mean mg mb h₀)
    (hdp : dp + 20 < recursionLimit) (hun : un + 120 < cLine)
    (ret : ∀ h' tk', s.toks ≤ tk' → Fr h₀ L h' m → News h₀ L h' ((x, instObj 771 dx) :: (dx, dictOf es n) :: nx) → Q (.ref x) { s with heap := h', toks := tk' }) :
    wpAny (model PG w) (ktrTop dp un gd cn ⟨.function, nm, ig, ic, mo⟩ L a ccd cl outer) (pyIter (.ref x)) Q E s := by
  refine wpAny_with_toks (Nat.le_refl _) ?_
  refine' owit_iter F X ?I ?hs ?hf ?_
  case I => k_inst
  case hs => k_is
  case hf => k_is
  k_steps
  exact ret _ _ (by assumption) (by k_asm) (by k_asm)
theorem sh_noLen {h : Heap} (X : (hd.heap_39 w.params).In h) : Looks (model PG w) h (typeLookup (.ref 771) "__len__") none := looks_findIn X (by k_is)
theorem sh_noHint {h : Heap} (X : (hd.heap_39 w.params).In h) : Looks (model PG w) h (typeLookup (.ref 771) "__length_hint__") none := looks_findIn X (by k_is)
theorem c_list {x dx io di pb fs : Nat} {t1 t2 t3 tn tb : Tok} {T₁ : ShT} {buf : Str} {ts : List (List Nat)} {nx : List (Addr × Obj)}
    (B : Below A₀ h₀ outer h₀) (F : Fr h₀ L s.heap m) (X : (hd.heap_39 w.params).In h₀) (N : News h₀ L s.heap nx) (T : Top hd.view_39 loose mean mg mb h₀)
    (hL : LexSt w T₁ x dx io di pb fs t1 t2 t3 tn tb buf news s.toks ts nx) (hlen : (buf.length : Int) ≤ 20) (hts : ts.length ≤ 100)
    (o1 : dx < x) (o2 : x < di) (o3 : di < io) (o4 : io < pb) (o5 : pb < fs) (n0 : ∀ p ∈ news, @LT.lt Nat _ p.1 dx) (hdp : dp + 20 < recursionLimit) (hun : un + 140 < cLine)
    (ret : ∀ S vs c h' tk', StrsP tk' vs ts → s.toks ≤ tk' → Fr h₀ L h' m → News h₀ L h' ((S, listOf vs.toArray c) :: news) → (∀ p ∈ news, p.1 < S) → Q (.ref S) { s with heap := h', toks := tk' }) :
    wpAny (model PG w) (ktrTop dp un gd cn ⟨.function, nm, ig, ic, mo⟩ L a ccd cl outer) (call (.type "list") [.ref x]) Q E s := by
  obtain ⟨st, p, tp, pbs, npb, vtok, r, rfl, rest⟩ := hL
  have F1 := F.push (listOf #[] 0)
  have N1 := news_in6 (N.push F (listOf #[] 0) rfl)
  have hS : (s.heap.push (listOf #[] 0)).get? s.heap.objs.size = some (listOf #[] 0) := Heap.get?_push_size _ rfl
  have o6 : @LT.lt Nat _ fs s.heap.objs.size := Heap.lt_size (N (fs, dqObj [] 0) (by simp)).1
  generalize hSe : s.heap.objs.size = S at *
  have n4 : ∀ p ∈ news, p.1 ≠ S := fun p hp => Nat.ne_of_lt (Nat.lt_trans (n0 p hp) (by omega))
  have lt : ∀ p ∈ news, p.1 < S := fun p hp => Nat.lt_trans (n0 p hp) (by omega)
  refine callType_codes (Q₁ := fun obj s₁ => obj = .ref S ∧ s₁ = { s with heap := s.heap.push (listOf #[] 0) }) PySem.F.called_list (PySem.F.typeCall_list_1 _) PySem.F.entry_list_init
    (code_list_new _ (by rw [hSe]; exact ⟨rfl, rfl⟩)) fun obj s₁ h₁ => ?_
  obtain ⟨rfl, rfl⟩ := h₁
  refine ⟨⟨_, hS, rfl⟩, PySem.F.args_list_init_2 _ _, ?_⟩
  show wpAny _ _ (do let old ← Builtin.List.listItems (.ref S); Builtin.List.listUpdate (.ref S) (fun _ => #[]); letGo old.toList.reverse; Builtin.List.listExtendWith (.ref S) (.ref x) .none) _ _ _
  refine wpAny_bind ?_
  unfold Builtin.List.listItems
  refine wpAny_bind (wpAny_seqItems hS rfl (wpAny_pure ?_))
  show wpAny _ _ (updateSeq S (fun _ => #[]) >>= fun _ => letGo (#[] : Array Value).toList.reverse >>= fun _ => Builtin.List.listExtendWith (.ref S) (.ref x) .none) _ _ _
  refine wpAny_bind (upd_seq (pre := [_, _, _, _, _, _]) (ys := #[]) F1 N1 ?_ n4 rfl (by simp) (by simp) fun h2 c2 F2 N2 => ?_)
  · simp only [List.forall_mem_cons]
    exact ⟨Nat.ne_of_lt (by omega), Nat.ne_of_lt (by omega), Nat.ne_of_lt (by omega), Nat.ne_of_lt (by omega), Nat.ne_of_lt (by omega), Nat.ne_of_lt (by omega), fun _ h => nomatch h⟩
  refine wpAny_bind (wpAny_letGo ?_)
  unfold Builtin.List.listExtendWith
  have hx : h2.get? x = some (instObj 771 dx) := (N2 (x, instObj 771 dx) (by simp)).1
  have tx : Looks (model PG w) h2 (typeOf (.ref x)) (.ref 771) := (Looks.ld hx).andThen .now
  refine wpAny_bind (tx.here ?_)
  have e1 : (Builtin.List.listSameRef (.ref S) (.ref x) || (Value.ref 771 == Value.type "list") || (Value.ref 771 == Value.type "tuple")) = false := by
    have : (S == x) = false := beq_eq_false_iff_ne.mpr (Nat.ne_of_gt (by omega))
    show ((S == x) || _ || _) = false
    rw [this]; rfl
  rw [e1]
  simp only [Bool.false_eq_true, if_false]
  refine wpAny_bind (c_iter (un := un + 1 + 1) B F2 X N2 T hdp (by omega) fun h3 tk3 hle3 F3 N3 => ?_)
  refine wpAny_bind (wpAny_holding ?_)
  have hx3 : h3.get? x = some (instObj 771 dx) := (N3 (x, instObj 771 dx) (by simp)).1
  have X3 := X.keeps F3.keep
  have tx3 : Looks (model PG w) h3 (typeOf (.ref x)) (.ref 771) := (Looks.ld hx3).andThen .now
  have l1 : Looks (model PG w) h3 (specialOf (.ref x) "__len__") none := tx3.andThen (sh_noLen X3)
  have l2 : Looks (model PG w) h3 (specialOf (.ref x) "__length_hint__") none := tx3.andThen (sh_noHint X3)
  unfold Builtin.List.listLengthHint
  refine wpAny_bind (l1.here ?_)
  show wpAny _ _ (specialOf (Value.ref x) (Str.ofString "__length_hint__") >>= _) _ _ _
  refine wpAny_bind (l2.here ?_)
  refine wpAny_pure ?_
  show wpAny _ _ (rule "list.extend.makes-room" >>= fun _ => Builtin.List.listTouch (.ref S) >>= fun _ => again (.builtin "list.extend.loop" ⟨[.ref S, .ref x, .none], []⟩)) _ _ _
  refine wpAny_bind (wpAny_rule ?_)
  refine wpAny_bind ?_
  show wpAny _ _ (updateSeq S (fun z => z.push .none) >>= fun _ => updateSeq S (fun z => z.pop)) _ _ _
  have hpre : ∀ q ∈ ([(x, instObj 771 dx), (dx, dictOf (shDict w T₁ io pb fs st (Value.str (Str.ofString "") vtok)) 19), (io, instObj 636 di), (di, dictOf (sioDict w t1 t2 t3 tn tb tp buf p) 3), (pb, dqObj pbs npb), (fs, dqObj [] 0)] : List (Addr × Obj)), q.1 ≠ S := by
    simp only [List.forall_mem_cons]
    exact ⟨Nat.ne_of_lt (by omega), Nat.ne_of_lt (by omega), Nat.ne_of_lt (by omega), Nat.ne_of_lt (by omega), Nat.ne_of_lt (by omega), Nat.ne_of_lt (by omega), fun _ h => nomatch h⟩
  have N3' : News h₀ L h3 ([(x, instObj 771 dx), (dx, dictOf (shDict w T₁ io pb fs st (Value.str (Str.ofString "") vtok)) 19), (io, instObj 636 di), (di, dictOf (sioDict w t1 t2 t3 tn tb tp buf p) 3), (pb, dqObj pbs npb), (fs, dqObj [] 0)] ++ (S, listOf #[] c2) :: news) := N3
  refine wpAny_bind (upd_seq (ys := #[Value.none]) F3 N3' hpre n4 rfl (by simp) (by simp) fun h4 c4 F4 N4 => ?_)
  refine upd_seq (ys := #[]) F4 N4 hpre n4 rfl (by simp) (by simp) fun h5 c5 F5 N5 => ?_
  refine wpAny_pure ⟨plainId_quiet PySem.F.plain_extend_loop _, ext_loop (un := un + 1) B X T hlen o1 o2 o3 o4 o5 o6 ?_ ?_ ?_ n4 hdp (by omega) ts _ [] [] c5 _ (by simp; omega) strsP_nil F5 N5 (LexSt.up ⟨st, p, tp, pbs, npb, vtok, r, rfl, rest⟩ hle3) fun vs' c' h' tk' hv' hle F' N' => ⟨rfl, ret S vs' c' h' tk' (by simpa using hv') (Nat.le_trans hle3 hle) F' N' lt⟩⟩
  · exact fun p hp => Nat.ne_of_lt (n0 p hp)
  · exact fun p hp => Nat.ne_of_lt (Nat.lt_trans (n0 p hp) (by omega))
  · exact fun p hp => Nat.ne_of_lt (Nat.lt_trans (n0 p hp) (by omega))
end
section
variable {w : World} {loose : List Str} {mean : ExcName → Option Value} {mg mb : Str → Option Value} {news : List (Addr × Obj)} {un : Nat} {dp : Nat} {gd : Option (List Code)} {cn : Str} {nm : List (Str × NameKind)} {ig ic : Bool} {mo : List (Str × Const)} {a : Addr} {ccd : Value} {cl : List (Str × Addr)} {outer : List Env} {A₀ : Around} {base h₀ : Heap} {L : Addr} {m : Str → Option Value} {s : Shared} {Q E : Value → Shared → Prop}
theorem c_shlexL {x : Str} {tx : Tok} (B : Below A₀ base outer h₀) (F : Fr h₀ L s.heap m) (X : (hd.heap_39 w.params).In h₀) (N : News h₀ L s.heap news) (T : Top hd.view_39 loose mean mg mb h₀) (hch : ∀ c ∈ x.cps.toList, c = 45 ∨ Lett c) (hdp : dp + 12 < recursionLimit) (hun : un + 70 < cLine)
    (ret : ∀ (x' dx io di pb fs : Nat) t1 t2 t3 tn tb (T₁ : ShT) nx h' tk', Fr h₀ L h' m → News h₀ L h' nx → LexSt w T₁ x' dx io di pb fs t1 t2 t3 tn tb x news tk' (lexT x.cps.toList) nx → (∀ p ∈ news, @LT.lt Nat _ p.1 dx) → dx < x' → x' < di → di < io → io < pb → pb < fs → Q (.ref x') { s with heap := h', toks := tk' }) :
    wpAny (model PG w) (ktrTop dp un gd cn ⟨.function, nm, ig, ic, mo⟩ L a ccd cl outer) (call (.ref 771) [.str x tx]) Q E s := by
  refine c_shlex B F X N T hdp hun fun x' dx io di pb fs t1 t2 t3 tn tb tp vst vtok T₁ h' tk' F' N' n0 o1 o2 o3 o4 o5 => ?_
  refine ret x' dx io di pb fs t1 t2 t3 tn tb T₁ _ h' tk' F' N' ⟨_, 0, tp, [], 0, vtok, x.cps.toList, rfl, Int.le_refl _, Int.natCast_nonneg _, ?_, hch, .inl ⟨_, rfl⟩, .inl ⟨rfl, rfl⟩⟩ n0 o1 o2 o3 o4 o5
  rfl
end
section
variable {prog : Program} {w : World} {A : Around} {E : Value → Shared → Prop} {s : Shared}
theorem nextOf_tup_item {it l : Addr} {i : Nat} {items : Array Value} {x : Value} {Q : Value → Shared → Prop} (hit : s.heap.IsTupleIter it l i) (hl : s.heap.IsTuple l items) (hx : items[i]? = some x)
    (hQ : ∀ h', h'.IsTupleIter it l (i + 1) → Heap.SameBut it s.heap h' → Q x { s with heap := h' }) : wpAny (model prog w) A (Builtin.SmallTypes.nextOf (.ref it)) Q E s := by
  obtain ⟨o, ho, hc, hd⟩ := id hit
  obtain ⟨ol, hol, _, nl, hdl⟩ := hl
  unfold Builtin.SmallTypes.nextOf
  refine wpAny_bind (wpAny_callSpecial?_slot (name := Str.ofString "__next__") hit.typeIs PySem.F.slot_tuple_iterator_next
    (wpAny_call_entry PySem.F.slot_tuple_iterator_next hit.typeIs PySem.F.entry_tuple_iterator_next ?_ (PySem.F.args_tuple_iterator_next_1 _)))
  show wpAny _ _ (field (.ref it) 0 >>= _) _ _ s
  refine wpAny_bind (wpAny_field ho hd (x := .ref l) rfl ?_)
  show wpAny _ _ (if (Value.ref l == Value.none) = true then _ else _) _ _ s
  rw [if_neg (show ¬ ((Value.ref l == Value.none) = true) from Bool.false_ne_true)]
  show wpAny _ _ (field (.ref it) 1 >>= _) _ _ s
  refine wpAny_bind (wpAny_field ho hd (x := .int i 0) rfl ?_)
  show wpAny _ _ (seqItems? (.ref l) >>= _) _ _ s
  refine wpAny_bind (wpAny_seqItems hol hdl ?_)
  simp only [Int.toNat_natCast, hx]
  refine wpAny_bind (wpAny_setField ho hd (by simp) (wpAny_pure ⟨x, rfl, wpAny_pure (hQ _ ?_ (Heap.SameBut.update ..))⟩))
  exact ⟨_, Heap.get?_update_self _ ho (Obj.isFreed_of_fields (Obj.data_mapFields hd _)), (Obj.cls_mapFields ..).trans hc, by
    rw [Obj.data_mapFields hd]; simp [rawInt]⟩
theorem nextOf_tup_end {it l : Addr} {i : Nat} {items : Array Value} {Q : Value → Shared → Prop} (hh : A.handled = none)
    (hit : s.heap.IsTupleIter it l i) (hl : s.heap.IsTuple l items) (hx : items[i]? = none)
    (hE : ∀ h' e, Heap.ExtBut it s.heap h' → (∃ o, h'.get? e = some o ∧ o.cls = .type "StopIteration") → E (.ref e) { s with heap := h' }) : wpAny (model prog w) A (Builtin.SmallTypes.nextOf (.ref it)) Q E s := by
  obtain ⟨o, ho, hc, hd⟩ := id hit
  obtain ⟨ol, hol, _, nl, hdl⟩ := hl
  unfold Builtin.SmallTypes.nextOf
  refine wpAny_bind (wpAny_callSpecial?_slot (name := Str.ofString "__next__") hit.typeIs PySem.F.slot_tuple_iterator_next
    (wpAny_call_entry PySem.F.slot_tuple_iterator_next hit.typeIs PySem.F.entry_tuple_iterator_next ?_ (PySem.F.args_tuple_iterator_next_1 _)))
  show wpAny _ _ (field (.ref it) 0 >>= _) _ _ s
  refine wpAny_bind (wpAny_field ho hd (x := .ref l) rfl ?_)
  show wpAny _ _ (if (Value.ref l == Value.none) = true then _ else _) _ _ s
  rw [if_neg (show ¬ ((Value.ref l == Value.none) = true) from Bool.false_ne_true)]
  show wpAny _ _ (field (.ref it) 1 >>= _) _ _ s
  refine wpAny_bind (wpAny_field ho hd (x := .int i 0) rfl ?_)
  show wpAny _ _ (seqItems? (.ref l) >>= _) _ _ s
  refine wpAny_bind (wpAny_seqItems hol hdl ?_)
  simp only [Int.toNat_natCast, hx]
  refine wpAny_bind (wpAny_rule (wpAny_bind (wpAny_setField ho hd (by simp) ?_)))
  show wpAny _ _ (newExc (.type "StopIteration") [] >>= _) _ _ _
  refine wpAny_bind ?_
  simp only [newExc, newTuple]
  refine wpAny_bind (wpAny_newObj_type ?_ (by size_fits))
  refine wpAny_bind (m := firstArgMember _ _) (wpAny_of_eq (a := Value.none) (by first | rfl | (simp only [firstArgMember]; rfl)) ?_)
  refine wpAny_newObj_type ?_ (by size_fits)
  simp only [raiseNew]
  refine wpAny_bind (wpAny_handled ?_)
  first | rw [show A.in1.handled = none from hh] | rw [hh]
  refine wpAny_bind (wpAny_pure (wpAny_throw ?_))
  exact hE _ _ (((Heap.SameBut.update ..).extBut.push _).push _) ⟨_, Heap.get?_push_size _ rfl, rfl⟩
theorem draws_tup {A : Around} (hh : A.handled = none) (it l : Addr) (hne : l ≠ it) (items : Array Value) :
    Draws prog w A it [it, l] items.size (fun i v => items[i]? = some v) (fun i h => h.IsTupleIter it l i ∧ h.IsTuple l items) where
  live := fun _ _ st => let ⟨o, ho, _⟩ := st.1; ⟨o, ho⟩
  frame := fun _ _ _ st hk => ⟨st.1.at fun o e => hk it (by simp) o e, st.2.at fun o e => hk l (by simp) o e⟩
  item := fun i s Q E hi st hQ => by
    refine nextOf_tup_item st.1 st.2 (x := items[i]) (by simp [hi]) fun h' hit' hs' => ?_
    exact hQ _ h' s.toks (by simp [hi]) ⟨hit', st.2.extBut hs'.extBut hne⟩ hs'
  done := fun s Q E st hE => nextOf_tup_end hh st.1 st.2 (by simp) hE
theorem enum_newT (l : Addr) (items : Array Value) (n : Nat) (dct : Option Addr) (sl : Array (Option Value)) :
    Meets (Builtin.«enumerate.__new__» ⟨[.type "enumerate", .ref l], []⟩) (fun _ R s => s.heap.get? l = some { cls := .type "tuple", dict := dct, data := .seq items n, slots := sl } ∧
      R (.ok (.ret (.ref (s.heap.push { cls := .type "tuple_iterator", data := .fields #[.ref l, .int 0 0] }).objs.size)))
        { s with heap := (s.heap.push { cls := .type "tuple_iterator", data := .fields #[.ref l, .int 0 0] }).push { cls := .type "enumerate", data := .fields #[.none, .bool false, .ref s.heap.objs.size, rawInt 0, .none, .none] } }) :=
  .of_wp fun prog w A R s h => by
    obtain ⟨hp, g, d, tk, os⟩ := s; obtain ⟨hl, h⟩ := h
    have hsub := sub_enumerate
    have hL : Heap.IsTuple (Shared.heap ⟨hp, g, d, tk, os⟩) l items := ⟨_, hl, rfl, n, rfl⟩
    wp_walk using AutoSeq1.wpAny_loadPart' hl
    refine wpAny_stack_any fun st => wpAny_pure ?_
    split
    · rename_i c _ _ _ _ _
      cases (c == Value.type "enumerate")
      · wp_walk using AutoSeq1.wpAny_loadPart' hl, wpAny_pyIter_tuple hL
        exact ⟨_, rfl, h⟩
      · wp_walk using AutoSeq1.wpAny_loadPart' hl, wpAny_pyIter_tuple hL
        exact ⟨_, rfl, h⟩
    · wp_walk using AutoSeq1.wpAny_loadPart' hl, wpAny_pyIter_tuple hL
      exact ⟨_, rfl, h⟩
theorem call_enum_tup {l : Addr} {items : Array Value} {Q : Value → Shared → Prop} (hL : s.heap.IsTuple l items)
    (h : ∀ h', IsEnum h' (s.heap.objs.size + 1) s.heap.objs.size 0 .none → h'.IsTupleIter s.heap.objs.size l 0 → h'.objs.size = s.heap.objs.size + 2 →
      (∀ b o, s.heap.get? b = some o → h'.get? b = some o) → Q (.ref (s.heap.objs.size + 1)) { s with heap := h' }) :
    wpAny (model prog w) A (call (.type "enumerate") [.ref l]) Q E s := by
  obtain ⟨⟨c, dct, dt, sl⟩, hl, hc, n, hd⟩ := hL
  replace hc : c = .type "tuple" := hc
  replace hd : dt = .seq items n := hd
  subst hc hd
  refine callType_new PySem.F.called_enumerate (by decide) (PySem.F.typeCall_enumerate_1 _) (PySem.F.newCall_enumerate_1 _) (fun obj => PySem.F.args_object_init_2 obj _) PySem.F.entry_enumerate_new
    (enum_newT l items n dct sl) ⟨hl, ?_⟩
  have hz : (s.heap.push { cls := .type "tuple_iterator", data := .fields #[.ref l, .int 0 0] }).objs.size = s.heap.objs.size + 1 := Heap.size_push ..
  show _ ∧ _
  rw [hz]
  have he : IsEnum ((s.heap.push { cls := .type "tuple_iterator", data := .fields #[.ref l, .int 0 0] }).push
      { cls := .type "enumerate", data := .fields #[.none, .bool false, .ref s.heap.objs.size, rawInt 0, .none, .none] }) (s.heap.objs.size + 1) s.heap.objs.size 0 .none := by
    have := Heap.get?_push_size (s.heap.push { cls := .type "tuple_iterator", data := .fields #[.ref l, .int 0 0] })
      (o := { cls := .type "enumerate", data := .fields #[.none, .bool false, .ref s.heap.objs.size, rawInt 0, .none, .none] }) rfl
    rw [hz] at this; exact this
  refine ⟨⟨_, he, rfl⟩, h _ he ⟨_, Heap.get?_push_of_some _ (Heap.get?_push_size _ rfl), rfl, rfl⟩ (by rw [Heap.size_push, hz]) fun b o x => Heap.get?_push_of_some _ (Heap.get?_push_of_some _ x)⟩
theorem enum_K {K : Frag} {env : Env} {body : List Stmt} {h₀ : Heap} {Q : Flow → Shared → Prop} {elts : List Expr} {k : Nat} {pos : Pos} {l : Addr} {lo : Obj} {vs : List Value} {xs : List Itm} {n : Nat} {m₀ : Str → Option Value} {news : List (Addr × Obj)}
    (hh : A.handled = none) (F : Fr h₀ env.locals s.heap m₀) (N : News h₀ env.locals s.heap news) (X₀ : K.In h₀) (hk : K.lookup l = some lo) (hc : lo.cls = .type "tuple") (hd : lo.data = .seq vs.toArray n) (hx : enumItems 0 vs = xs)
    (rest₀ : ∀ I : Addr, (∀ p ∈ news, p.1 < I) → ItemsRest prog w A E h₀ env (.Tuple elts k pos) body Q s [(I + 1, "enumerate"), (I, "tuple_iterator")] [] xs m₀ news) :
    wpAny (model prog w) A (call (.type "enumerate") [.ref l]) (fun xv s₁ => wpAny (model prog w) A (pyIter xv) (fun it s₂ => TurnsAt prog w A h₀ env (.Tuple elts k pos) body Q E it s₂) E s₁) E s := by
  subst hx
  have hg : h₀.get? l = some lo := X₀ _ _ hk
  have hax : s.heap.get? l = some lo := F.keep _ _ hg
  have hl : s.heap.IsTuple l vs.toArray := ⟨lo, hax, hc, n, hd⟩
  have hlt : l < s.heap.objs.size := Heap.lt_size hax
  have hLs : env.locals < s.heap.objs.size := F.ns.lt
  refine call_enum_tup hl fun h' hE hI hsz hk => ?_
  refine wpAny_pyIter_enum hE ?_
  refine ktg_core (tk0 := s.toks) (keep := []) (KTurns.ofWalksU (WalksT.enumerateD (draws_tup (A := A.in1) hh s.heap.objs.size l (Nat.ne_of_lt hlt) vs.toArray) (s.heap.objs.size + 1) (Nat.succ_ne_self _) (by
      intro hb
      have hb' : s.heap.objs.size + 1 = s.heap.objs.size ∨ s.heap.objs.size + 1 = l := by simpa using hb
      rcases hb' with e | e
      · exact Nat.succ_ne_self _ e
      · exact ktu_ne 1 hlt e.symm) (by simp)).toU) (by simp [enumItems_length]) ?_ ?_ ?_ ?_ ?_ ?_ ?_ ?_ (F.keeps hk) (N.grown hk) trivial (rest₀ _ fun p hp => Heap.lt_size (N p hp).1)
  · rintro i v h ⟨T, vals, rfl, ⟨t, x, hx, rfl⟩, hT⟩
    refine ⟨_, enumItems_get vs 0 i (v := x) (by simpa using hx), T, t, rfl, ?_⟩
    show IsTup h T #[.int ((0 + i : Nat) : Int) t, x]
    rw [Nat.zero_add]
    exact hT
  · rintro i h ⟨⟨old, he⟩, ⟨oi, hoi, hic, _⟩, _⟩
    have he' : ∃ oe : Obj, h.get? (s.heap.objs.size + 1) = some oe ∧ oe.cls = .type "enumerate" := ⟨_, he, rfl⟩
    obtain ⟨oe, h1, h2⟩ := he'
    refine ⟨[(s.heap.objs.size + 1, oe), (s.heap.objs.size, oi)], ⟨⟨rfl, h2⟩, ⟨rfl, hic⟩, trivial⟩, fun p hp => ?_⟩
    rcases List.mem_cons.mp hp with rfl | hp
    · exact h1
    · rw [List.mem_singleton.mp hp]; exact hoi
  · intro b hb
    have hb' : b = s.heap.objs.size + 1 ∨ b = s.heap.objs.size := by simpa using hb
    rcases hb' with rfl | rfl
    · exact ⟨by simp, ktu_new F (Nat.le_add_right _ _)⟩
    · exact ⟨by simp, ktu_new F (Nat.le_refl _)⟩
  · intro b hb
    simpa using hb
  · intro b hb
    have hb' : b = s.heap.objs.size + 1 ∨ b = s.heap.objs.size ∨ b = l := by simpa using hb
    rcases hb' with rfl | rfl | rfl
    · exact .inl (by simp)
    · exact .inl (by simp)
    · exact .inr (.inr ⟨lo, hg⟩)
  · intro hI'
    have hb' : env.locals = s.heap.objs.size + 1 ∨ env.locals = s.heap.objs.size ∨ env.locals = l := by simpa using hI'
    rcases hb' with e | e | e
    · exact ktu_ne 1 hLs e
    · exact Nat.ne_of_lt hLs e
    · exact absurd (Heap.lt_size hg) (Nat.not_lt.mpr (e ▸ F.above))
  · intro p hp hI'
    have hb' : p.1 = s.heap.objs.size + 1 ∨ p.1 = s.heap.objs.size := by simpa using hI'
    have hlp := Heap.lt_size (N p hp).1
    rcases hb' with e | e
    · exact ktu_ne 1 hlp e
    · exact Nat.ne_of_lt hlp e
  · exact ⟨⟨.none, hE⟩, hI, hl.at fun o e => hk l o e⟩
end
def ERest (prog : Program) (w : World) (A : Around) (E : Value → Shared → Prop) (h₀ : Heap) (env : Env) (target : Expr) (body orelse : List Stmt) (Q : Flow → Shared → Prop) (s : Shared) (I : Addr) : List Value → (Str → Option Value) → List (Addr × Obj) → Prop
  | [], m, news => ∀ h tk, Fr h₀ env.locals h m → News h₀ env.locals h news → wpAny (model prog w) A (execs orelse env) Q E { s with heap := h, toks := tk }
  | v :: r, m, news => ∀ o h tk, o.cls = .type "tuple_iterator" → Fr h₀ env.locals h m → News h₀ env.locals h ((I, o) :: news) →
      wpAny (model prog w) A (assign target env v) (fun _ s₂ => wpAny (model prog w) A (execs body env) (UnrPostW h₀ env.locals { s with heap := h, toks := tk } [(I, o)] (fun m' n' => SubL [] n' ∧ ERest prog w A E h₀ env target body orelse Q s I r m' n') Q) E s₂) E { s with heap := h, toks := tk }
section
variable {prog : Program} {w : World} {A : Around} {E : Value → Shared → Prop} {h₀ : Heap} {env : Env} {target : Expr} {body orelse : List Stmt} {Q : Flow → Shared → Prop} {s : Shared} {I : Addr} {K : Frag}
theorem ERest.nil {m : Str → Option Value} {news : List (Addr × Obj)} (h : ∀ h tk, Fr h₀ env.locals h m → News h₀ env.locals h news → wpAny (model prog w) A (execs orelse env) Q E { s with heap := h, toks := tk }) : ERest prog w A E h₀ env target body orelse Q s I [] m news := h
theorem ERest.cons {v : Value} {r : List Value} {m : Str → Option Value} {news : List (Addr × Obj)} (h : ∀ o h tk, o.cls = .type "tuple_iterator" → Fr h₀ env.locals h m → News h₀ env.locals h ((I, o) :: news) →
      wpAny (model prog w) A (assign target env v) (fun _ s₂ => wpAny (model prog w) A (execs body env) (UnrPostW h₀ env.locals { s with heap := h, toks := tk } [(I, o)] (fun m' n' => SubL [] n' ∧ ERest prog w A E h₀ env target body orelse Q s I r m' n') Q) E s₂) E { s with heap := h, toks := tk }) : ERest prog w A E h₀ env target body orelse Q s I (v :: r) m news := h
theorem forE_tupK {ax : Addr} {lo : Obj} {vs : List Value} {n : Nat} {m₀ : Str → Option Value} {news : List (Addr × Obj)}
    (hh : A.handled = none) (F : Fr h₀ env.locals s.heap m₀) (N : News h₀ env.locals s.heap news) (X₀ : K.In h₀) (hk : K.lookup ax = some lo) (hc : lo.cls = .type "tuple") (hd : lo.data = .seq vs.toArray n)
    (hE : PassesOwn (model prog w) A env E)
    (rest₀ : ∀ I : Addr, (∀ p ∈ news, p.1 < I) → ERest prog w A E h₀ env target body orelse Q s I vs m₀ news) :
    wpAny (model prog w) A (pyIter (.ref ax)) (fun it s₂ => codeAny (model prog w) A (.forLoop target it body orelse env) (fun r s' => match r with | .ok f => Q f s' | .error e => cameBackBy (model prog w) A env E e s') s₂) E s := by
  have hg : h₀.get? ax = some lo := X₀ _ _ hk
  have hax : s.heap.get? ax = some lo := F.keep _ _ hg
  have hlt : ax < s.heap.objs.size := Heap.lt_size hax
  have hI0 : h₀.get? s.heap.objs.size = none := ktu_new F (Nat.le_refl _)
  have hLI : env.locals ≠ s.heap.objs.size := Nat.ne_of_lt F.ns.lt
  refine wpAny_pyIter_tuple (⟨lo, hax, hc, n, hd⟩ : s.heap.IsTuple ax vs.toArray) ?_
  refine codeAny_forLoop_any
    (fun k s' => ∃ h' tk m' news' i r, s' = { s with heap := h', toks := tk } ∧ h'.IsTupleIter s.heap.objs.size ax i ∧ vs.drop i = r ∧ Fr h₀ env.locals h' m' ∧ News h₀ env.locals h' news' ∧ (∀ p ∈ news', p.1 ≠ s.heap.objs.size) ∧
      ERest prog w A E h₀ env target body orelse Q s s.heap.objs.size r m' news' ∧ k = r.length) ?_ vs.length
    ⟨_, s.toks, m₀, news, 0, vs, rfl, ⟨_, Heap.get?_push_size _ rfl, rfl, rfl⟩, rfl, F.push _, N.pushKeep _, fun p hp => Nat.ne_of_lt (Heap.lt_size (N p hp).1), rest₀ _ (fun p hp => Heap.lt_size (N p hp).1), rfl⟩
  rintro k s' ⟨h', tk, m', news', i, r, rfl, hit, hr, F', N', hoff, hR, rfl⟩
  have htu : h'.IsTuple ax vs.toArray := ⟨lo, F'.keep _ _ hg, hc, n, hd⟩
  have next : ∀ h₁ : Heap, Heap.ExtBut s.heap.objs.size h' h₁ → Fr h₀ env.locals h₁ m' ∧ News h₀ env.locals h₁ news' := fun h₁ hk₁ =>
    ⟨⟨F'.ns.at' fun o e => hk₁ _ o hLI e, fun b o e => hk₁ b o (fun z => by rw [z, hI0] at e; cases e) (F'.keep b o e), F'.above⟩, fun p hp => ⟨hk₁ _ _ (hoff p hp) (N' p hp).1, (N' p hp).2⟩⟩
  cases r with
  | nil =>
    have hx : vs.toArray[i]? = none := by
      have h1 : vs.length ≤ i := by have := congrArg List.length hr; simp at this; omega
      simp [h1]
    refine wpAny_pyNext_tuple_end hh hit htu hx fun h₁ hk₁ => ?_
    obtain ⟨F₁, N₁⟩ := next h₁ hk₁
    exact wpAny_mono (hR h₁ tk F₁ N₁) (fun _ _ x => x) hE
  | cons v r =>
    have hx : vs.toArray[i]? = some v := by
      have h1 : (vs.drop i)[0]? = some v := by rw [hr]; rfl
      rw [List.getElem?_drop] at h1
      simpa using h1
    have hr' : vs.drop (i + 1) = r := by
      have : vs.drop (i + 1) = (vs.drop i).drop 1 := by rw [List.drop_drop]
      rw [this, hr]; rfl
    refine wpAny_pyNext_tuple_item hit htu hx fun h₁ hit₁ hs₁ => ?_
    refine letGo_tupleiter hit₁ ?_
    obtain ⟨F₁, N₁⟩ := next h₁ hs₁.extBut
    obtain ⟨o, ho, hoc, hod⟩ := id hit₁
    have N₂ : News h₀ env.locals h₁ ((s.heap.objs.size, o) :: news') := List.forall_mem_cons.mpr ⟨⟨ho, hLI.symm, hI0⟩, N₁⟩
    refine wpAny_mono (hR o h₁ tk hoc F₁ N₂) (fun _ s₂ h₂ => wpAny_mono h₂ (fun f s₃ p => ?_) hE) hE
    have fin : ∀ s₃, UnrEndW h₀ env.locals { s with heap := h₁, toks := tk } [(s.heap.objs.size, o)] (fun m' n' => SubL [] n' ∧ ERest prog w A E h₀ env target body orelse Q s s.heap.objs.size r m' n') s₃ →
        ∃ k', k' < (v :: r).length ∧ ∃ h' tk m' news' i r, s₃ = { s with heap := h', toks := tk } ∧ h'.IsTupleIter s.heap.objs.size ax i ∧ vs.drop i = r ∧ Fr h₀ env.locals h' m' ∧ News h₀ env.locals h' news' ∧ (∀ p ∈ news', p.1 ≠ s.heap.objs.size) ∧
          ERest prog w A E h₀ env target body orelse Q s s.heap.objs.size r m' news' ∧ k' = r.length := by
      rintro s₃ ⟨h₃, tk₃, m₃, news₃, rfl, F₃, N₃, ho₃, -, hR₃⟩
      exact ⟨r.length, by simp, h₃, tk₃, m₃, news₃, i + 1, r, rfl, ⟨o, (N₃ (s.heap.objs.size, o) (by simp)).1, hoc, hod⟩, hr', F₃, N₃.right, fun p hp => ho₃ p hp _ (List.mem_singleton.mpr rfl), hR₃, rfl⟩
    cases f with
    | ret v => exact p
    | brk => exact p
    | next => exact fin _ p
    | cont => exact fin _ p
end
theorem eq_known {prog : Program} {w : World} {A : Around} {E : Value → Shared → Prop} {s : Shared} {x y : Int} {t u : Tok} {b : Bool} {Q : Value → Shared → Prop} (e : (x == y) = b) (h : Q (.bool b) s) : wpAny (model prog w) A (compareOp .Eq (.int x t) (.int y u)) Q E s := by
  refine PyProof.Rows.eq_int ?_
  rw [e]; exact h
theorem unr_end1 {h₀ : Heap} {L : Addr} {s₁ : Shared} {h' : Heap} {tk : Nat} {m' : Str → Option Value} {q : Addr × Obj} {news' : List (Addr × Obj)} {rest : (Str → Option Value) → List (Addr × Obj) → Prop} (F : Fr h₀ L h' m') (N : News h₀ L h' (q :: news')) (off : ∀ p ∈ news', p.1 ≠ q.1) (r : rest m' news') :
    UnrEndW h₀ L s₁ [q] (fun m n => SubL [] n ∧ rest m n) { s₁ with heap := h', toks := tk } :=
  ⟨h', tk, m', news', rfl, F, N, fun p hp z hz => by rw [List.mem_singleton.mp hz]; exact off p hp, trivial, r⟩
theorem unr_end2 {h₀ : Heap} {L : Addr} {s₁ : Shared} {h' : Heap} {tk : Nat} {m' : Str → Option Value} {i : Nat} {o1 o2 : Obj} {news' : List (Addr × Obj)} {rest : (Str → Option Value) → List (Addr × Obj) → Prop} (F : Fr h₀ L h' m') (N : News h₀ L h' ((i + 1, o1) :: (i, o2) :: news')) (off : ∀ p ∈ news', @LT.lt Nat _ p.1 i) (r : rest m' news') :
    UnrEndW h₀ L s₁ [(i + 1, o1), (i, o2)] (fun m n => SubL [] n ∧ rest m n) { s₁ with heap := h', toks := tk } :=
  ⟨h', tk, m', news', rfl, F, N, fun p hp z hz => by
    have := off p hp
    simp only [List.mem_cons, List.not_mem_nil, or_false] at hz
    rcases hz with rfl | rfl
    · exact Nat.ne_of_lt (Nat.lt_succ_of_lt this)
    · exact Nat.ne_of_lt this, trivial, r⟩
abbrev fmPs (md : Int) (tx : Tok) (pl : Nat) : List (Str × Value) := [(Str.ofString "mode", .int md tx), (Str.ofString "perm", .ref pl)]
structure FmM (md : Int) (tx : Tok) (pl : Nat) (m : Str → Option Value) : Prop where
  mode : m (Str.ofString "mode") = some (.int md tx)
  perm : m (Str.ofString "perm") = some (.ref pl)
theorem FmM.all {md : Int} {tx : Tok} {pl : Nat} {m : Str → Option Value} (h : FmM md tx pl m) : ∀ q ∈ fmPs md tx pl, m q.1 = some q.2 := by
  intro q hq
  simp only [fmPs, List.mem_cons, List.not_mem_nil, or_false] at hq
  rcases hq with rfl | rfl
  · exact h.mode
  · exact h.perm
def sg (b : Bool) (c : Nat) : Str := ⟨#[if b then c else 45]⟩
def FmPost (g : Heap) (L : Addr) (s : Shared) (md : Int) (tx : Tok) (pl : Nat) (vs : List Value) (y : Str) (e1 e2 : Addr × Obj) (news : List (Addr × Obj)) (f : Flow) (s' : Shared) : Prop :=
  f = .next ∧ ∃ h' tk m' c t, s' = { s with heap := h', toks := tk } ∧ FmM md tx pl m' ∧ Fr g L h' m' ∧ News g L h' (e1 :: e2 :: (pl, W.listOf (vs ++ [Value.str y t]).toArray c) :: news)
section
variable {M : Model} {A : Around} {E : Value → Shared → Prop} {g : Heap} {L : Addr} {s : Shared} {pl : Nat} {vs : List Value} {e1 e2 : Addr × Obj} {news : List (Addr × Obj)} {t : Sem Flow} {Q : Flow → Shared → Prop} {c₀ : Nat}
theorem fm_join (md : Int) (tx : Tok) (y : Str) (_ : News g L s.heap (e1 :: e2 :: (pl, W.listOf vs.toArray c₀) :: news)) (hA : wpAny M A t (FmPost g L s md tx pl vs y e1 e2 news) E s)
    (hB : ∀ h' tk m' c t, Fr g L h' (kstB m' (fmPs md tx pl)) → News g L h' (e1 :: e2 :: (pl, W.listOf (vs ++ [Value.str y t]).toArray c) :: news) → Q .next { s with heap := h', toks := tk }) : wpAny M A t Q E s := by
  refine wpAny_mono hA (fun f s' h => ?_) (fun _ _ z => z)
  obtain ⟨rfl, h', tk, m', c, t, rfl, hm, F, N⟩ := h
  exact hB h' tk m' c t (fr_b F hm.all) N
theorem fm_end {md : Int} {tx : Tok} {y : Str} {h' : Heap} {tk c : Nat} {t : Tok} {m' : Str → Option Value} (F : Fr g L h' m') (hm : FmM md tx pl m') (N : News g L h' (e1 :: e2 :: (pl, W.listOf (vs ++ [Value.str y t]).toArray c) :: news)) :
    FmPost g L s md tx pl vs y e1 e2 news .next { s with heap := h', toks := tk } := ⟨rfl, h', tk, m', c, t, rfl, hm, F, N⟩
end
theorem fm_end2 {g : Heap} {L : Addr} {s : Shared} {pl : Nat} {vs : List Value} {q e1 e2 : Addr × Obj} {news : List (Addr × Obj)} {md : Int} {tx : Tok} {y z : Str} {h' : Heap} {tk c : Nat} {t : Tok} {m' : Str → Option Value} (F : Fr g L h' m') (hm : FmM md tx pl m') (N : News g L h' (q :: e1 :: e2 :: (pl, W.listOf (vs.toArray.push (Value.str z t)) c) :: news)) (ez : z = y) :
    FmPost g L s md tx pl vs y e1 e2 news .next { s with heap := h', toks := tk } := by
  subst ez
  have e : vs.toArray.push (Value.str z t) = (vs ++ [Value.str z t]).toArray := by simp
  rw [e] at N
  exact fm_end F hm (news_tl N)
theorem fm_end3 {g : Heap} {L : Addr} {s : Shared} {pl : Nat} {vs : List Value} {e1 e2 : Addr × Obj} {news : List (Addr × Obj)} {md : Int} {tx : Tok} {y z : Str} {h' : Heap} {tk c : Nat} {t : Tok} {m' : Str → Option Value} (F : Fr g L h' m') (hm : FmM md tx pl m') (N : News g L h' (e1 :: e2 :: (pl, W.listOf (vs.toArray.push (Value.str z t)) c) :: news)) (ez : z = y) :
    FmPost g L s md tx pl vs y e1 e2 news .next { s with heap := h', toks := tk } := by
  subst ez
  have e : vs.toArray.push (Value.str z t) = (vs ++ [Value.str z t]).toArray := by simp
  rw [e] at N
  exact fm_end F hm N
theorem join_tok {prog : Program} {w : World} {A : Around} {E : Value → Shared → Prop} {s : Shared} {D : Addr} {x : Str} {t : Tok} {l r : List (Str × Tok)} {a b : Str × Tok} {Q : Value → Shared → Prop} (hl : s.heap.IsList D (strValues l).toArray) (e : l = a :: b :: r)
    (hok : JoinOk x (l.map (·.1)) = true) (hq : Q (.str (Txt.join x (l.map (·.1))) s.toks) { s with toks := s.toks + 1 }) : wpAny (model prog w) A (call (.builtin "str.join") [.str x t, .ref D]) Q E s := by
  unfold JoinOk at hok
  rw [Bool.not_eq_true'] at hok
  refine call_meets PySem.F.slot_str_join (typeIs_str _ _ _) PySem.F.entry_str_join (PySem.F.args_str_join_2 _ _) (meets_str_join_list x t D l hok) ⟨hl, ?_⟩
  subst e
  exact ⟨joinFit_length hok, hq⟩
def fmS (b0 b1 b2 b3 b4 b5 b6 b7 b8 : Bool) : List Nat := [100, if b0 then 114 else 45, if b1 then 119 else 45, if b2 then 120 else 45, if b3 then 114 else 45, if b4 then 119 else 45, if b5 then 120 else 45, if b6 then 114 else 45, if b7 then 119 else 45, if b8 then 120 else 45]
theorem fm_str (b0 b1 b2 b3 b4 b5 b6 b7 b8 : Bool) : Txt.join (Str.ofString "") [sg true 100, sg b0 114, sg b1 119, sg b2 120, sg b3 114, sg b4 119, sg b5 120, sg b6 114, sg b7 119, sg b8 120] = toS (fmS b0 b1 b2 b3 b4 b5 b6 b7 b8) := by
  rw [show Str.ofString "" = ⟨#[]⟩ from by decide +kernel]
  rfl
theorem join_fm {prog : Program} {w : World} {A : Around} {E : Value → Shared → Prop} {s : Shared} {h₀ : Heap} {L D : Addr} {news : List (Addr × Obj)} {c : Nat} {t u0 u1 u2 u3 u4 u5 u6 u7 u8 u9 : Tok} {b0 b1 b2 b3 b4 b5 b6 b7 b8 : Bool} {Q : Value → Shared → Prop}
    (N : News h₀ L s.heap ((D, W.listOf ([Value.str (sg true 100) u0, Value.str (sg b0 114) u1, Value.str (sg b1 119) u2, Value.str (sg b2 120) u3, Value.str (sg b3 114) u4, Value.str (sg b4 119) u5, Value.str (sg b5 120) u6, Value.str (sg b6 114) u7, Value.str (sg b7 119) u8] ++ [Value.str (sg b8 120) u9]).toArray c) :: news))
    (hq : Q (.str (toS (fmS b0 b1 b2 b3 b4 b5 b6 b7 b8)) s.toks) { s with toks := s.toks + 1 }) : wpAny (model prog w) A (call (.builtin "str.join") [.str (Str.ofString "") t, .ref D]) Q E s := by
  refine join_tok (l := [(sg true 100, u0), (sg b0 114, u1), (sg b1 119, u2), (sg b2 120, u3), (sg b3 114, u4), (sg b4 119, u5), (sg b5 120, u6), (sg b6 114, u7), (sg b7 119, u8), (sg b8 120, u9)]) ⟨_, (N _ (.head _)).1, rfl, _, rfl⟩ rfl ?_ ?_
  · refine PyProof.Rows.joinOk_of ?_
    have e : (Str.ofString "").length = 0 := by decide +kernel
    rw [e]
    exact Nat.le_of_ble_eq_true rfl
  · show Q (.str (Txt.join (Str.ofString "") [sg true 100, sg b0 114, sg b1 119, sg b2 120, sg b3 114, sg b4 119, sg b5 120, sg b6 114, sg b7 119, sg b8 120]) s.toks) _
    rw [fm_str]; exact hq
local macro_rules | `(tactic| walk_at "call type:enumerate") => `(tactic| (k_here; (with_reducible show wpAny _ _ (call (Value.type _) [Value.ref 815]) (fun xv s₁ => wpAny _ _ (pyIter xv) (fun it s₂ => TurnsAt _ _ _ _ _ _ _ _ _ it s₂) _ s₁) _ _); (with_unfolding_all refine' enum_K (xs := [Itm.pair (fun t => .int 0 t) (.ref 790), Itm.pair (fun t => .int 1 t) (.ref 792), Itm.pair (fun t => .int 2 t) (.ref 794), Itm.pair (fun t => .int 3 t) (.ref 798), Itm.pair (fun t => .int 4 t) (.ref 800), Itm.pair (fun t => .int 5 t) (.ref 802), Itm.pair (fun t => .int 6 t) (.ref 806), Itm.pair (fun t => .int 7 t) (.ref 808), Itm.pair (fun t => .int 8 t) (.ref 810), Itm.pair (fun t => .int 9 t) (.ref 814)]) ?h ?F ?N ?X ?k ?c ?d ?x ?_; (case h => with_unfolding_all rfl); (case F => k_asm); (case N => k_asm); (case X => k_asm); (case k => k_is); (case c => exact rfl); (case d => exact rfl); (case x => exact rfl); k_whole); intro i' l1; (try k_lt l1)))
local macro_rules | `(tactic| walk_at "exec For Tuple Name cons cons") => `(tactic| (k_here; (with_unfolding_all refine' PySem.wpAny_For ?_ ?s; (case s => (intro _; with_unfolding_all rfl)); k_whole)))
local macro_rules | `(tactic| walk_at "pyIter ref") => `(tactic| (k_here; (with_reducible show wpAny _ _ (pyIter (Value.ref _)) (fun it s₂ => codeAny _ _ (.forLoop _ it _ _ _) _ s₂) _ _); (with_unfolding_all refine' forE_tupK ?h ?F ?N ?X ?k ?c ?d ?e ?_; (case h => with_unfolding_all rfl); (case F => k_asm); (case N => k_asm); (case X => k_asm); (case k => k_is); (case c => exact rfl); (case d => exact rfl); (case e => passes_own); k_whole); intro i' l1; (try k_lt l1)))
local macro_rules | `(tactic| walk_at "ERest") => `(tactic| first
  | (with_unfolding_all refine ERest.cons (fun o' h' tk' hc' F' N' => ?_))
  | (with_unfolding_all refine ERest.nil (fun h' tk' F' N' => ?_)))
local macro_rules | `(tactic| walk_at "compareOp Eq int int") => `(tactic| (k_here; refine eq_known (by with_reducible assumption) ?_))
local macro_rules | `(tactic| walk_at "exec For Tuple Call cons nil") => `(tactic| (k_here; (with_reducible show wpAny _ _ (exec (Stmt.For _ (Expr.Call (Expr.Name (Str.ofString "enumerate") _) _ _ _) _ [] _) _) _ _ _); (rename Fr _ _ _ _ => lF'); (with_unfolding_all refine' For_turns lF' ?_; k_whole)))
local macro_rules | `(tactic| k_all) => `(tactic| exact fun p hp => Nat.ne_of_lt (ktn_ltOf (by tbn_find) p hp))
local macro_rules | `(tactic| walk_at "UnrEndW") => `(tactic| (k_here; k_dflt first
  | (refine' unr_end1 ?F ?N ?o ?_; (case F => k_asm); (case N => k_asm); (case o => k_all))
  | (refine' unr_end2 ?F ?N ?o ?_; (case F => k_asm); (case N => k_asm); (case o => exact List.forall_mem_cons.mpr ⟨by (refine ltN ?_; (try dsimp only); omega), ktn_ltOf (by tbn_find)⟩))))
section
variable {w : World} {loose : List Str} {mean : ExcName → Option Value} {mg mb : Str → Option Value} {news : List (Addr × Obj)} {un : Nat} {dp : Nat} {gd : Option (List Code)} {cn : Str} {nm : List (Str × NameKind)} {ig ic : Bool} {mo : List (Str × Const)} {a : Addr} {ccd : Value} {cl : List (Str × Addr)} {outer : List Env} {A₀ : Around} {base h₀ : Heap} {L : Addr} {m : Str → Option Value} {s : Shared} {Q E : Value → Shared → Prop}
theorem c_fm {md : Int} {tx : Tok} {b0 b1 b2 b3 b4 b5 b6 b7 b8 : Bool} (B : Below A₀ base outer h₀) (F : Fr h₀ L s.heap m) (X : (hd.heap_39 w.params).In h₀) (N : News h₀ L s.heap news) (T : Top hd.view_39 loose mean mg mb h₀) (hdp : dp + 12 < recursionLimit) (hun : un + 70 < cLine)
    (a0 : (Builtin.bitAnd md 61440 == 40960) = false) (a1 : (Builtin.bitAnd md 61440 == 49152) = false) (a2 : (Builtin.bitAnd md 61440 == 32768) = false) (a3 : (Builtin.bitAnd md 61440 == 24576) = false) (a4 : (Builtin.bitAnd md 61440 == 16384) = true)
    (s1 : (Builtin.bitAnd md 2112 == 2112) = false) (s2 : (Builtin.bitAnd md 2048 == 2048) = false) (s3 : (Builtin.bitAnd md 1032 == 1032) = false) (s4 : (Builtin.bitAnd md 1024 == 1024) = false) (s5 : (Builtin.bitAnd md 513 == 513) = false) (s6 : (Builtin.bitAnd md 512 == 512) = false)
    (e0 : (Builtin.bitAnd md 256 == 256) = b0) (e1 : (Builtin.bitAnd md 128 == 128) = b1) (e2 : (Builtin.bitAnd md 64 == 64) = b2) (e3 : (Builtin.bitAnd md 32 == 32) = b3) (e4 : (Builtin.bitAnd md 16 == 16) = b4) (e5 : (Builtin.bitAnd md 8 == 8) = b5) (e6 : (Builtin.bitAnd md 4 == 4) = b6) (e7 : (Builtin.bitAnd md 2 == 2) = b7) (e8 : (Builtin.bitAnd md 1 == 1) = b8)
    (ret : ∀ t h' tk', 0 < tk' → Fr h₀ L h' m → News h₀ L h' news → Q (.str (toS (fmS b0 b1 b2 b3 b4 b5 b6 b7 b8)) t) { s with heap := h', toks := tk' }) :
    wpAny (model PG w) (ktrTop dp un gd cn ⟨.function, nm, ig, ic, mo⟩ L a ccd cl outer) (call (.ref 822) [.int md tx]) Q E s := by
  repeat' (first | (k_unfold; (try dsimp only)) | ((fail_if_success (with_reducible show wpAny _ _ (exec (Stmt.For (Expr.Tuple _ _ _) (Expr.Name _ _) _ _ _) _) _ _ _)); first | walk1 | (dsimp only; walk1)))
  refine' fm_join md tx (sg true 100) ?N ?A ?_
  case N => k_asm
  case A =>
    walk1
    k_steps
    all_goals first
      | (refine' fm_end2 ?F ?hm ?N ?e; (case N => k_asm); (case F => k_asm); (case hm => exact FmM.mk (by rfl) (by rfl)); (case e => (decide +kernel)))
      | (refine' fm_end3 ?F ?hm ?N ?e; (case N => k_asm); (case F => k_asm); (case hm => exact FmM.mk (by rfl) (by rfl)); (case e => (decide +kernel)))
  intro h' tk' m' c' t' F' N'
  (try k_sweep)
  repeat' (first | (k_unfold; (try dsimp only)) | ((fail_if_success (with_reducible show wpAny _ _ (exec (Stmt.For (Expr.Tuple _ _ _) (Expr.Name _ _) _ _ _) _) _ _ _)); first | walk1 | (dsimp only; walk1)))
  refine' fm_join md tx (sg b0 114) ?N ?A ?_
  case N => k_asm
  case A =>
    walk1
    k_steps
    all_goals first
      | (refine' fm_end2 ?F ?hm ?N ?e; (case N => k_asm); (case F => k_asm); (case hm => exact FmM.mk (by rfl) (by rfl)); (case e => (first | (rw [show b0 = true by assumption]; decide +kernel) | (rw [show b0 = false by first | assumption | exact Bool.eq_false_iff.mpr (by assumption)]; decide +kernel))))
      | (refine' fm_end3 ?F ?hm ?N ?e; (case N => k_asm); (case F => k_asm); (case hm => exact FmM.mk (by rfl) (by rfl)); (case e => (first | (rw [show b0 = true by assumption]; decide +kernel) | (rw [show b0 = false by first | assumption | exact Bool.eq_false_iff.mpr (by assumption)]; decide +kernel))))
  intro h' tk' m' c' t' F' N'
  (try k_sweep)
  repeat' (first | (k_unfold; (try dsimp only)) | ((fail_if_success (with_reducible show wpAny _ _ (exec (Stmt.For (Expr.Tuple _ _ _) (Expr.Name _ _) _ _ _) _) _ _ _)); first | walk1 | (dsimp only; walk1)))
  refine' fm_join md tx (sg b1 119) ?N ?A ?_
  case N => k_asm
  case A =>
    walk1
    k_steps
    all_goals first
      | (refine' fm_end2 ?F ?hm ?N ?e; (case N => k_asm); (case F => k_asm); (case hm => exact FmM.mk (by rfl) (by rfl)); (case e => (first | (rw [show b1 = true by assumption]; decide +kernel) | (rw [show b1 = false by first | assumption | exact Bool.eq_false_iff.mpr (by assumption)]; decide +kernel))))
      | (refine' fm_end3 ?F ?hm ?N ?e; (case N => k_asm); (case F => k_asm); (case hm => exact FmM.mk (by rfl) (by rfl)); (case e => (first | (rw [show b1 = true by assumption]; decide +kernel) | (rw [show b1 = false by first | assumption | exact Bool.eq_false_iff.mpr (by assumption)]; decide +kernel))))
  intro h' tk' m' c' t' F' N'
  (try k_sweep)
  repeat' (first | (k_unfold; (try dsimp only)) | ((fail_if_success (with_reducible show wpAny _ _ (exec (Stmt.For (Expr.Tuple _ _ _) (Expr.Name _ _) _ _ _) _) _ _ _)); first | walk1 | (dsimp only; walk1)))
  refine' fm_join md tx (sg b2 120) ?N ?A ?_
  case N => k_asm
  case A =>
    walk1
    k_steps
    all_goals first
      | (refine' fm_end2 ?F ?hm ?N ?e; (case N => k_asm); (case F => k_asm); (case hm => exact FmM.mk (by rfl) (by rfl)); (case e => (first | (rw [show b2 = true by assumption]; decide +kernel) | (rw [show b2 = false by first | assumption | exact Bool.eq_false_iff.mpr (by assumption)]; decide +kernel))))
      | (refine' fm_end3 ?F ?hm ?N ?e; (case N => k_asm); (case F => k_asm); (case hm => exact FmM.mk (by rfl) (by rfl)); (case e => (first | (rw [show b2 = true by assumption]; decide +kernel) | (rw [show b2 = false by first | assumption | exact Bool.eq_false_iff.mpr (by assumption)]; decide +kernel))))
  intro h' tk' m' c' t' F' N'
  (try k_sweep)
  repeat' (first | (k_unfold; (try dsimp only)) | ((fail_if_success (with_reducible show wpAny _ _ (exec (Stmt.For (Expr.Tuple _ _ _) (Expr.Name _ _) _ _ _) _) _ _ _)); first | walk1 | (dsimp only; walk1)))
  refine' fm_join md tx (sg b3 114) ?N ?A ?_
  case N => k_asm
  case A =>
    walk1
    k_steps
    all_goals first
      | (refine' fm_end2 ?F ?hm ?N ?e; (case N => k_asm); (case F => k_asm); (case hm => exact FmM.mk (by rfl) (by rfl)); (case e => (first | (rw [show b3 = true by assumption]; decide +kernel) | (rw [show b3 = false by first | assumption | exact Bool.eq_false_iff.mpr (by assumption)]; decide +kernel))))
      | (refine' fm_end3 ?F ?hm ?N ?e; (case N => k_asm); (case F => k_asm); (case hm => exact FmM.mk (by rfl) (by rfl)); (case e => (first | (rw [show b3 = true by assumption]; decide +kernel) | (rw [show b3 = false by first | assumption | exact Bool.eq_false_iff.mpr (by assumption)]; decide +kernel))))
  intro h' tk' m' c' t' F' N'
  (try k_sweep)
  repeat' (first | (k_unfold; (try dsimp only)) | ((fail_if_success (with_reducible show wpAny _ _ (exec (Stmt.For (Expr.Tuple _ _ _) (Expr.Name _ _) _ _ _) _) _ _ _)); first | walk1 | (dsimp only; walk1)))
  refine' fm_join md tx (sg b4 119) ?N ?A ?_
  case N => k_asm
  case A =>
    walk1
    k_steps
    all_goals first
      | (refine' fm_end2 ?F ?hm ?N ?e; (case N => k_asm); (case F => k_asm); (case hm => exact FmM.mk (by rfl) (by rfl)); (case e => (first | (rw [show b4 = true by assumption]; decide +kernel) | (rw [show b4 = false by first | assumption | exact Bool.eq_false_iff.mpr (by assumption)]; decide +kernel))))
      | (refine' fm_end3 ?F ?hm ?N ?e; (case N => k_asm); (case F => k_asm); (case hm => exact FmM.mk (by rfl) (by rfl)); (case e => (first | (rw [show b4 = true by assumption]; decide +kernel) | (rw [show b4 = false by first | assumption | exact Bool.eq_false_iff.mpr (by assumption)]; decide +kernel))))
  intro h' tk' m' c' t' F' N'
  (try k_sweep)
  repeat' (first | (k_unfold; (try dsimp only)) | ((fail_if_success (with_reducible show wpAny _ _ (exec (Stmt.For (Expr.Tuple _ _ _) (Expr.Name _ _) _ _ _) _) _ _ _)); first | walk1 | (dsimp only; walk1)))
  refine' fm_join md tx (sg b5 120) ?N ?A ?_
  case N => k_asm
  case A =>
    walk1
    k_steps
    all_goals first
      | (refine' fm_end2 ?F ?hm ?N ?e; (case N => k_asm); (case F => k_asm); (case hm => exact FmM.mk (by rfl) (by rfl)); (case e => (first | (rw [show b5 = true by assumption]; decide +kernel) | (rw [show b5 = false by first | assumption | exact Bool.eq_false_iff.mpr (by assumption)]; decide +kernel))))
      | (refine' fm_end3 ?F ?hm ?N ?e; (case N => k_asm); (case F => k_asm); (case hm => exact FmM.mk (by rfl) (by rfl)); (case e => (first | (rw [show b5 = true by assumption]; decide +kernel) | (rw [show b5 = false by first | assumption | exact Bool.eq_false_iff.mpr (by assumption)]; decide +kernel))))
  intro h' tk' m' c' t' F' N'
  (try k_sweep)
  repeat' (first | (k_unfold; (try dsimp only)) | ((fail_if_success (with_reducible show wpAny _ _ (exec (Stmt.For (Expr.Tuple _ _ _) (Expr.Name _ _) _ _ _) _) _ _ _)); first | walk1 | (dsimp only; walk1)))
  refine' fm_join md tx (sg b6 114) ?N ?A ?_
  case N => k_asm
  case A =>
    walk1
    k_steps
    all_goals first
      | (refine' fm_end2 ?F ?hm ?N ?e; (case N => k_asm); (case F => k_asm); (case hm => exact FmM.mk (by rfl) (by rfl)); (case e => (first | (rw [show b6 = true by assumption]; decide +kernel) | (rw [show b6 = false by first | assumption | exact Bool.eq_false_iff.mpr (by assumption)]; decide +kernel))))
      | (refine' fm_end3 ?F ?hm ?N ?e; (case N => k_asm); (case F => k_asm); (case hm => exact FmM.mk (by rfl) (by rfl)); (case e => (first | (rw [show b6 = true by assumption]; decide +kernel) | (rw [show b6 = false by first | assumption | exact Bool.eq_false_iff.mpr (by assumption)]; decide +kernel))))
  intro h' tk' m' c' t' F' N'
  (try k_sweep)
  repeat' (first | (k_unfold; (try dsimp only)) | ((fail_if_success (with_reducible show wpAny _ _ (exec (Stmt.For (Expr.Tuple _ _ _) (Expr.Name _ _) _ _ _) _) _ _ _)); first | walk1 | (dsimp only; walk1)))
  refine' fm_join md tx (sg b7 119) ?N ?A ?_
  case N => k_asm
  case A =>
    walk1
    k_steps
    all_goals first
      | (refine' fm_end2 ?F ?hm ?N ?e; (case N => k_asm); (case F => k_asm); (case hm => exact FmM.mk (by rfl) (by rfl)); (case e => (first | (rw [show b7 = true by assumption]; decide +kernel) | (rw [show b7 = false by first | assumption | exact Bool.eq_false_iff.mpr (by assumption)]; decide +kernel))))
      | (refine' fm_end3 ?F ?hm ?N ?e; (case N => k_asm); (case F => k_asm); (case hm => exact FmM.mk (by rfl) (by rfl)); (case e => (first | (rw [show b7 = true by assumption]; decide +kernel) | (rw [show b7 = false by first | assumption | exact Bool.eq_false_iff.mpr (by assumption)]; decide +kernel))))
  intro h' tk' m' c' t' F' N'
  (try k_sweep)
  repeat' (first | (k_unfold; (try dsimp only)) | ((fail_if_success (with_reducible show wpAny _ _ (exec (Stmt.For (Expr.Tuple _ _ _) (Expr.Name _ _) _ _ _) _) _ _ _)); first | walk1 | (dsimp only; walk1)))
  refine' fm_join md tx (sg b8 120) ?N ?A ?_
  case N => k_asm
  case A =>
    walk1
    k_steps
    all_goals first
      | (refine' fm_end2 ?F ?hm ?N ?e; (case N => k_asm); (case F => k_asm); (case hm => exact FmM.mk (by rfl) (by rfl)); (case e => (first | (rw [show b8 = true by assumption]; decide +kernel) | (rw [show b8 = false by first | assumption | exact Bool.eq_false_iff.mpr (by assumption)]; decide +kernel))))
      | (refine' fm_end3 ?F ?hm ?N ?e; (case N => k_asm); (case F => k_asm); (case hm => exact FmM.mk (by rfl) (by rfl)); (case e => (first | (rw [show b8 = true by assumption]; decide +kernel) | (rw [show b8 = false by first | assumption | exact Bool.eq_false_iff.mpr (by assumption)]; decide +kernel))))
  intro h' tk' m' c' t' F' N'
  (try k_sweep)
  repeat' (first | (k_unfold; (try dsimp only)) | ((fail_if_success (with_reducible show wpAny _ _ (exec (Stmt.For (Expr.Tuple _ _ _) (Expr.Name _ _) _ _ _) _) _ _ _)); first | walk1 | (dsimp only; walk1)))
  refine' join_fm ?N ?_
  case N => k_asm
  k_steps
  refine' ret _ _ _ ?zpos ?zF ?zN
  case zF => k_asm
  case zN => first | k_asm | exact news_tl (by k_asm)
  case zpos => first | exact Nat.succ_pos _ | assumption | omega
end
theorem fm_facts : ∀ r : Fin 512, (Builtin.bitAnd (Builtin.bitOr 16384 (r.val : Int)) 61440 == 40960) = false ∧ (Builtin.bitAnd (Builtin.bitOr 16384 (r.val : Int)) 61440 == 49152) = false ∧ (Builtin.bitAnd (Builtin.bitOr 16384 (r.val : Int)) 61440 == 32768) = false ∧ (Builtin.bitAnd (Builtin.bitOr 16384 (r.val : Int)) 61440 == 24576) = false ∧ (Builtin.bitAnd (Builtin.bitOr 16384 (r.val : Int)) 61440 == 16384) = true ∧
    (Builtin.bitAnd (Builtin.bitOr 16384 (r.val : Int)) 2112 == 2112) = false ∧ (Builtin.bitAnd (Builtin.bitOr 16384 (r.val : Int)) 2048 == 2048) = false ∧ (Builtin.bitAnd (Builtin.bitOr 16384 (r.val : Int)) 1032 == 1032) = false ∧ (Builtin.bitAnd (Builtin.bitOr 16384 (r.val : Int)) 1024 == 1024) = false ∧ (Builtin.bitAnd (Builtin.bitOr 16384 (r.val : Int)) 513 == 513) = false ∧ (Builtin.bitAnd (Builtin.bitOr 16384 (r.val : Int)) 512 == 512) = false ∧
    (Builtin.bitAnd (Builtin.bitOr 16384 (r.val : Int)) 256 == 256) = r.val.testBit 8 ∧ (Builtin.bitAnd (Builtin.bitOr 16384 (r.val : Int)) 128 == 128) = r.val.testBit 7 ∧ (Builtin.bitAnd (Builtin.bitOr 16384 (r.val : Int)) 64 == 64) = r.val.testBit 6 ∧ (Builtin.bitAnd (Builtin.bitOr 16384 (r.val : Int)) 32 == 32) = r.val.testBit 5 ∧ (Builtin.bitAnd (Builtin.bitOr 16384 (r.val : Int)) 16 == 16) = r.val.testBit 4 ∧ (Builtin.bitAnd (Builtin.bitOr 16384 (r.val : Int)) 8 == 8) = r.val.testBit 3 ∧ (Builtin.bitAnd (Builtin.bitOr 16384 (r.val : Int)) 4 == 4) = r.val.testBit 2 ∧ (Builtin.bitAnd (Builtin.bitOr 16384 (r.val : Int)) 2 == 2) = r.val.testBit 1 ∧ (Builtin.bitAnd (Builtin.bitOr 16384 (r.val : Int)) 1 == 1) = r.val.testBit 0 := by
  decide +kernel
def lst (r : Nat) : List Nat := fmS (r.testBit 8) (r.testBit 7) (r.testBit 6) (r.testBit 5) (r.testBit 4) (r.testBit 3) (r.testBit 2) (r.testBit 1) (r.testBit 0)
theorem lst_ch (r : Nat) : ∀ c ∈ lst r, c = 45 ∨ Lett c := by
  have h : ∀ (b : Bool) (c : Nat), Lett c → (if b then c else 45) = 45 ∨ Lett (if b then c else 45) := by
    intro b c hc
    cases b
    · exact .inl rfl
    · exact .inr hc
  intro c hc
  simp only [lst, fmS, List.mem_cons, List.not_mem_nil, or_false] at hc
  have l1 : Lett 100 := .inl rfl
  have l2 : Lett 114 := .inr (.inl rfl)
  have l3 : Lett 119 := .inr (.inr (.inl rfl))
  have l4 : Lett 120 := .inr (.inr (.inr rfl))
  rcases hc with rfl | rfl | rfl | rfl | rfl | rfl | rfl | rfl | rfl | rfl
  · exact .inr l1
  all_goals (apply h; assumption)
theorem lst_len (r : Nat) : (lst r).length = 10 := rfl
section
variable {w : World} {loose : List Str} {mean : ExcName → Option Value} {mg mb : Str → Option Value} {news : List (Addr × Obj)} {un : Nat} {dp : Nat} {gd : Option (List Code)} {cn : Str} {nm : List (Str × NameKind)} {ig ic : Bool} {mo : List (Str × Const)} {a : Addr} {ccd : Value} {cl : List (Str × Addr)} {outer : List Env} {A₀ : Around} {base h₀ : Heap} {L : Addr} {m : Str → Option Value} {s : Shared} {Q E : Value → Shared → Prop}
theorem c_fmL {r : Nat} {tx : Tok} (B : Below A₀ base outer h₀) (F : Fr h₀ L s.heap m) (X : (hd.heap_39 w.params).In h₀) (N : News h₀ L s.heap news) (T : Top hd.view_39 loose mean mg mb h₀) (hr : r < 512) (hdp : dp + 12 < recursionLimit) (hun : un + 70 < cLine)
    (ret : ∀ t h' tk', 0 < tk' → Fr h₀ L h' m → News h₀ L h' news → Q (.str (toS (lst r)) t) { s with heap := h', toks := tk' }) :
    wpAny (model PG w) (ktrTop dp un gd cn ⟨.function, nm, ig, ic, mo⟩ L a ccd cl outer) (call (.ref 822) [.int (Builtin.bitOr 16384 (r : Int)) tx]) Q E s := by
  obtain ⟨a0, a1, a2, a3, a4, s1, s2, s3, s4, s5, s6, e0, e1, e2, e3, e4, e5, e6, e7, e8⟩ := fm_facts ⟨r, hr⟩
  exact c_fm B F X N T hdp hun a0 a1 a2 a3 a4 s1 s2 s3 s4 s5 s6 e0 e1 e2 e3 e4 e5 e6 e7 e8 ret
end
local macro_rules | `(tactic| walk_at "call ref") => `(tactic| (k_here; k_dflt ((with_reducible show wpAny _ _ (call (Value.ref 822) _ _) _ _ _); refine' c_fmL ?B ?F ?X ?N ?T ?hr ?d ?u ?_; (case B => k_asm); (case F => k_asm); (case X => k_asm); (case N => k_asm); (case T => k_asm); (case hr => assumption); (case d => k_room); (case u => ktr_units); k_whole; intro t' h' tk' hpos' F' N'; (try k_sweep))))
section
variable {w : World} {loose : List Str} {mean : ExcName → Option Value} {mg mb : Str → Option Value} {news : List (Addr × Obj)} {un : Nat} {dp : Nat} {gd : Option (List Code)} {cn : Str} {nm : List (Str × NameKind)} {ig ic : Bool} {mo : List (Str × Const)} {a : Addr} {ccd : Value} {cl : List (Str × Addr)} {outer : List Env} {A₀ : Around} {base h₀ : Heap} {L : Addr} {m : Str → Option Value} {s : Shared} {Q E : Value → Shared → Prop}
theorem c_listing {r : Nat} {tx : Tok} (B : Below A₀ base outer h₀) (F : Fr h₀ L s.heap m) (X : (hd.heap_39 w.params).In h₀) (N : News h₀ L s.heap news) (T : Top hd.view_39 loose mean mg mb h₀) (hr : r < 512) (hdp : dp + 20 < recursionLimit) (hun : un + 90 < cLine)
    (ret : ∀ t h' tk', 0 < tk' → Fr h₀ L h' m → News h₀ L h' news → Q (.str (toS (lst r)) t) { s with heap := h', toks := tk' }) :
    wpAny (model PG w) (ktrTop dp un gd cn ⟨.function, nm, ig, ic, mo⟩ L a ccd cl outer) (call (.ref 841) [.int (r : Int) tx]) Q E s := by
  k_steps
  refine' ret _ _ _ ?zpos ?zF ?zN
  case zF => k_asm
  case zN => first | k_asm | exact news_tl (by k_asm)
  case zpos => first | assumption | exact Nat.succ_pos _ | omega
end
def rangeItms : Int → Nat → List Itm
  | _, 0 => []
  | a, n + 1 => .tok (fun t => .int a t) :: rangeItms (a + 1) n
theorem rangeItms_length : ∀ (n : Nat) (a : Int), (rangeItms a n).length = n
  | 0, _ => rfl
  | n + 1, a => congrArg (· + 1) (rangeItms_length n (a + 1))
theorem rangeItms_get : ∀ (n i : Nat) (a : Int), i < n → (rangeItms a n)[i]? = some (.tok (fun t => .int (a + i) t))
  | 0, _, _, h => absurd h (Nat.not_lt_zero _)
  | n + 1, 0, a, _ => by simp [rangeItms]
  | n + 1, i + 1, a, h => by
    have q := rangeItms_get n i (a + 1) (by omega)
    have e : a + 1 + (i : Int) = a + ((i + 1 : Nat) : Int) := by push_cast; omega
    rw [e] at q
    simpa [rangeItms] using q
theorem allObj_mono {k k' : List (Addr × Obj) → Prop} {ws : List (Addr × String)} (h : ∀ its, k its → k' its) (x : AllObj ws k) : AllObj ws k' := by
  induction ws generalizing k k' with
  | nil => exact h [] x
  | cons q r ih => exact fun o ho => ih (fun its z => h _ z) (x o ho)
theorem kt_bound {prog : Program} {w : World} {A : Around} {target : Expr} {I : Addr} {fp wr : List Addr} {n : Nat} {P Md : Nat → Value → Heap → Prop} {St : Nat → Heap → Prop} (W : KTurns prog w A target I fp wr n P Md St) :
    KTurns prog w A target I fp wr n (fun i v h => i < n ∧ P i v h) (fun i v h => i < n ∧ Md i v h) St where
  sub := W.sub
  frame := W.frame
  item := fun i s Q E hi st hQ => W.item i s Q E hi st fun v h' tk hM hk => hQ v h' tk ⟨hi, hM⟩ hk
  go := fun i v s Q E hm hQ => W.go i v s Q E hm.2 fun h' hP st hk => hQ h' ⟨hm.1, hP⟩ st hk
  done := W.done
section
variable {prog : Program} {w : World} {A : Around} {E : Value → Shared → Prop} {s : Shared} {env : Env} {h₀ : Heap} {target : Expr} {body : List Stmt} {Q : Flow → Shared → Prop}
theorem letGo_rangeiter {I : Addr} {a b c : Int} {v : Value} {Q' : Unit → Shared → Prop} {s' : Shared} (hit : IsRangeIter s'.heap I a b c) (h : Q' () s') : wpAny (model prog w) A (letOwnedTupleGo target (.ref I) v) Q' E s' := by
  unfold letOwnedTupleGo
  cases target <;> first
    | exact wpAny_pure h
    | (cases v <;> first
        | exact wpAny_pure h
        | (refine wpAny_bind (wpAny_load hit ?_)
           exact wpAny_pure h))
theorem letGo_striter {I : Addr} {x : Str} {t : Tok} {i : Nat} {v : Value} {Q' : Unit → Shared → Prop} {s' : Shared} (hit : s'.heap.IsStrIter I "str_ascii_iterator" x t i) (h : Q' () s') : wpAny (model prog w) A (letOwnedTupleGo target (.ref I) v) Q' E s' := by
  obtain ⟨o, ho, hc, hd⟩ := hit
  unfold letOwnedTupleGo
  cases target <;> first
    | exact wpAny_pure h
    | (cases v <;> first
        | exact wpAny_pure h
        | (refine wpAny_bind (wpAny_load ho ?_)
           rw [hc, hd]
           exact wpAny_pure h))
theorem iter_rangeT {r : Addr} {a b : Int} {t u v : Tok} {n : Nat} {m₀ : Str → Option Value} {news : List (Addr × Obj)} (hr : IsRange s.heap r a b 1 t u v) (hs : Builtin.Range.small a b 1 = true) (hn : Builtin.Range.rangeSize a b 1 = (n : Int))
    (hh : A.handled = none) (F : Fr h₀ env.locals s.heap m₀) (N : News h₀ env.locals s.heap news)
    (rest₀ : ∀ I : Addr, (∀ p ∈ news, p.1 < I) → ItemsRest prog w A E h₀ env target body Q s [(I, "range_iterator")] [] (rangeItms a n) m₀ news) :
    wpAny (model prog w) A (pyIter (.ref r)) (fun it s₂ => TurnsAt prog w A h₀ env target body Q E it s₂) E s := by
  refine wpAny_pyIter_range hr hs ?_
  rw [hn]
  have hI0 : h₀.get? s.heap.objs.size = none := ktu_new F (Nat.le_refl _)
  refine ktg_core (tk0 := s.toks) (keep := []) (kt_bound (KTurns.ofWalks (Walks.range hh s.heap.objs.size a 1 n) fun i v s Q E st q => letGo_rangeiter st q)) (by rw [rangeItms_length]) (fun i v h hp => ?_) (fun i h st => ?_) (fun b hb => ?_) (fun b hb => by simpa using hb) (fun b hb => .inl (by simpa using hb)) ?_ (fun p hp hI => ?_) ?_ (F.push _) (N.pushKeep _) trivial (rest₀ _ fun p hp => Heap.lt_size (N p hp).1)
  · obtain ⟨hin, t, rfl⟩ := hp
    exact ⟨_, rangeItms_get n i a hin, t, by simp⟩
  · exact ⟨[(s.heap.objs.size, _)], ⟨⟨rfl, rfl⟩, trivial⟩, fun p hp => by rw [List.mem_singleton.mp hp]; exact st⟩
  · have hb' : b = s.heap.objs.size := by simpa using hb
    rw [hb']
    exact ⟨List.mem_cons_self .., hI0⟩
  · intro hI
    exact absurd F.ns.lt ((List.mem_singleton.mp hI) ▸ Nat.lt_irrefl _)
  · exact absurd (Heap.lt_size (N p hp).1) ((List.mem_singleton.mp hI) ▸ Nat.lt_irrefl _)
  · have h1 : a + ((0 : Nat) : Int) * 1 = a := by simp
    have h2 : (n : Int) - ((0 : Nat) : Int) = n := by simp
    show IsRangeIter _ _ (a + ((0 : Nat) : Int) * 1) ((n : Int) - ((0 : Nat) : Int)) 1
    rw [h1, h2]
    exact Heap.get?_push_size _ rfl
theorem itemsRest_state {s s' : Shared} (he : s'.gens = s.gens ∧ s'.drawn = s.drawn ∧ s'.os = s.os) {ws : List (Addr × String)} {keep : List (Addr × Obj)} : ∀ {xs : List Itm} {m : Str → Option Value} {news : List (Addr × Obj)},
    ItemsRest prog w A E h₀ env target body Q s ws keep xs m news → ItemsRest prog w A E h₀ env target body Q s' ws keep xs m news := by
  obtain ⟨h, g, d, t, o⟩ := s
  obtain ⟨h', g', d', t', o'⟩ := s'
  obtain ⟨e1, e2, e3⟩ := he
  dsimp only at e1 e2 e3
  subst e1 e2 e3
  intro xs
  induction xs with
  | nil => exact fun x => x
  | cons a r ih =>
    intro m news x v h₁ tk₁ hv F₁
    exact allObj_mono (fun its y N => wpAny_mono (y N) (fun _ s₂ z => wpAny_mono z (fun f s₃ p => by
      cases f with
      | ret v => exact p
      | brk => exact p
      | next => obtain ⟨a1, a2, a3, a4, a5, a6, a7, a8, a9, a10⟩ := p; exact ⟨a1, a2, a3, a4, a5, a6, a7, a8, a9, ih a10⟩
      | cont => obtain ⟨a1, a2, a3, a4, a5, a6, a7, a8, a9, a10⟩ := p; exact ⟨a1, a2, a3, a4, a5, a6, a7, a8, a9, ih a10⟩) fun _ _ z => z) fun _ _ z => z) (x v h₁ tk₁ hv F₁)
theorem range1_T {n : Nat} {t : Tok} {m₀ : Str → Option Value} {news : List (Addr × Obj)} {xs : List Itm} (hz : n ≤ 100) (hx : rangeItms 0 n = xs)
    (hh : A.handled = none) (F : Fr h₀ env.locals s.heap m₀) (N : News h₀ env.locals s.heap news)
    (rest₀ : ∀ I : Addr, (∀ p ∈ news, p.1 < I) → ItemsRest prog w A E h₀ env target body Q s [(I, "range_iterator")] [] xs m₀ news) :
    wpAny (model prog w) A (call (.type "range") [.int (n : Int) t]) (fun xv s₁ => wpAny (model prog w) A (pyIter xv) (fun it s₂ => TurnsAt prog w A h₀ env target body Q E it s₂) E s₁) E s := by
  subst hx
  refine call_range_1 ?_
  refine iter_rangeT (IsRange.new _ _ _ _ _ _ _) (small_one (by omega) (by omega) (by omega) (by omega)) (n := n) (by rw [rangeSize_one]; split <;> omega) hh (F.push _) (N.pushKeep _) fun I hI => ?_
  refine itemsRest_state (s := s) ?_ (rest₀ I hI)
  exact ⟨rfl, rfl, rfl⟩
theorem range2_T {a b : Int} {n : Nat} {t u : Tok} {m₀ : Str → Option Value} {news : List (Addr × Obj)} {xs : List Itm} (ha : -100 ≤ a) (ha' : a ≤ 100) (hb : b = a + n) (hz : n ≤ 100) (hx : rangeItms a n = xs)
    (hh : A.handled = none) (F : Fr h₀ env.locals s.heap m₀) (N : News h₀ env.locals s.heap news)
    (rest₀ : ∀ I : Addr, (∀ p ∈ news, p.1 < I) → ItemsRest prog w A E h₀ env target body Q s [(I, "range_iterator")] [] xs m₀ news) :
    wpAny (model prog w) A (call (.type "range") [.int a t, .int b u]) (fun xv s₁ => wpAny (model prog w) A (pyIter xv) (fun it s₂ => TurnsAt prog w A h₀ env target body Q E it s₂) E s₁) E s := by
  subst hx
  refine call_range_2 ?_
  refine iter_rangeT (IsRange.new _ _ _ _ _ _ _) (small_one (by omega) (by omega) (by omega) (by omega)) (n := n) (by rw [rangeSize_one]; split <;> omega) hh (F.push _) (N.pushKeep _) fun I hI => ?_
  refine itemsRest_state (s := s) ?_ (rest₀ I hI)
  exact ⟨rfl, rfl, rfl⟩
def strItms (x : List Nat) : List Itm := x.map fun c => .tok (fun t => .str ⟨#[c]⟩ t)
theorem iter_strT {x : Str} {t : Tok} {m₀ : Str → Option Value} {news : List (Addr × Obj)} (ha : x.cps.all (· < 128) = true)
    (hh : A.handled = none) (F : Fr h₀ env.locals s.heap m₀) (N : News h₀ env.locals s.heap news)
    (rest₀ : ∀ I : Addr, (∀ p ∈ news, p.1 < I) → ItemsRest prog w A E h₀ env target body Q s [(I, "str_ascii_iterator")] [] (strItms x.cps.toList) m₀ news) :
    wpAny (model prog w) A (pyIter (.str x t)) (fun it s₂ => TurnsAt prog w A h₀ env target body Q E it s₂) E s := by
  refine wpAny_pyIter_ascii ha ?_
  have hI0 : h₀.get? s.heap.objs.size = none := ktu_new F (Nat.le_refl _)
  refine ktg_core (tk0 := s.toks) (keep := []) (KTurns.ofWalks (Walks.strAscii hh s.heap.objs.size x t) fun i v s Q E st q => letGo_striter st q) (by simp [strItms]) (fun i v h hp => ?_) (fun i h st => ?_) (fun b hb => ?_) (fun b hb => by simpa using hb) (fun b hb => .inl (by simpa using hb)) ?_ (fun p hp hI => ?_) ?_ (F.push _) (N.pushKeep _) trivial (rest₀ _ fun p hp => Heap.lt_size (N p hp).1)
  · obtain ⟨c, u, hc, rfl⟩ := hp
    refine ⟨.tok (fun t => .str ⟨#[c]⟩ t), ?_, u, rfl⟩
    unfold strItms
    rw [List.getElem?_map, Array.getElem?_toList, hc]; rfl
  · obtain ⟨o, ho, hc, -⟩ := st
    exact ⟨[(s.heap.objs.size, o)], ⟨⟨rfl, hc⟩, trivial⟩, fun p hp => by rw [List.mem_singleton.mp hp]; exact ho⟩
  · have hb' : b = s.heap.objs.size := by simpa using hb
    rw [hb']
    exact ⟨List.mem_cons_self .., hI0⟩
  · intro hI
    exact absurd F.ns.lt ((List.mem_singleton.mp hI) ▸ Nat.lt_irrefl _)
  · exact absurd (Heap.lt_size (N p hp).1) ((List.mem_singleton.mp hI) ▸ Nat.lt_irrefl _)
  · exact ⟨_, Heap.get?_push_size _ rfl, rfl, rfl⟩
end
section
variable {prog : Program} {w : World} {A : Around} {E : Value → Shared → Prop} {s : Shared} {env : Env} {h₀ : Heap} {target : Expr} {body : List Stmt} {Q : Flow → Shared → Prop}
theorem rest_of_J {ws : List (Addr × String)} {keep : List (Addr × Obj)} {xs : List Itm} (J : Nat → (Str → Option Value) → List (Addr × Obj) → Prop)
    (step : ∀ i a m₁ news₁ v h tk, xs[i]? = some a → J i m₁ news₁ → a.Is v h → Fr h₀ env.locals h m₁ → AllObj ws (fun its => News h₀ env.locals h (its ++ news₁) →
      wpAny (model prog w) A (assign target env v) (fun _ s₂ => wpAny (model prog w) A (execs body env) (UnrPostW h₀ env.locals { s with heap := h, toks := tk } its (fun m' n' => SubL keep n' ∧ J (i + 1) m' n') Q) E s₂) E { s with heap := h, toks := tk }))
    (fin : ∀ m₁ news₁ h tk, J xs.length m₁ news₁ → Fr h₀ env.locals h m₁ → News h₀ env.locals h news₁ → Q .next { s with heap := h, toks := tk }) {m : Str → Option Value} {news : List (Addr × Obj)} (h0 : J 0 m news) :
    ItemsRest prog w A E h₀ env target body Q s ws keep xs m news := by
  have key : ∀ (k i : Nat), i + k = xs.length → ∀ m news, J i m news → ItemsRest prog w A E h₀ env target body Q s ws keep (xs.drop i) m news := by
    intro k
    induction k with
    | zero =>
      intro i hi m news hJ
      have hi' : i = xs.length := by omega
      subst hi'
      rw [List.drop_length]
      exact fun h tk F N => fin m news h tk hJ F N
    | succ k ih =>
      intro i hi m news hJ
      have hlt : i < xs.length := by omega
      rw [List.drop_eq_getElem_cons hlt]
      intro v h tk hv F
      refine allObj_mono (fun its y N => wpAny_mono (y N) (fun _ s₂ z => wpAny_mono z (fun f s₃ p => ?_) fun _ _ z => z) fun _ _ z => z) (step i xs[i] m news v h tk (List.getElem?_eq_getElem hlt) hJ hv F)
      cases f with
      | ret v => exact p
      | brk => exact p
      | next => obtain ⟨a1, a2, a3, a4, a5, a6, a7, a8, a9, a10⟩ := p; exact ⟨a1, a2, a3, a4, a5, a6, a7, a8, a9, ih (i + 1) (by omega) _ _ a10⟩
      | cont => obtain ⟨a1, a2, a3, a4, a5, a6, a7, a8, a9, a10⟩ := p; exact ⟨a1, a2, a3, a4, a5, a6, a7, a8, a9, ih (i + 1) (by omega) _ _ a10⟩
  have := key xs.length 0 (by omega) m news h0
  rwa [List.drop_zero] at this
end
section
variable {prog : Program} {w : World} {A : Around} {E : Value → Shared → Prop} {s : Shared}
theorem getItem_last {l : Addr} {vs : List Value} {v : Value} {u : Tok} {Q : Value → Shared → Prop} (hl : s.heap.IsList l (vs ++ [v]).toArray) (hz : vs.length ≤ 1000) (h : Q v s) : wpAny (model prog w) A (getItem (.ref l) (.int (-1) u)) Q E s := by
  refine wpAny_getItem_list_neg hl (by omega) (by simp; omega) (by omega) (x := v) ?_ h
  have e : ((-1 : Int) + ((vs ++ [v]).toArray.size : Nat)).toNat = vs.length := by simp; omega
  rw [e]
  simp
theorem item_last {value slice : Expr} {l : Addr} {vs : List Value} {v : Value} {u : Tok} {Q : Value → Shared → Prop} (hl : s.heap.IsList l (vs ++ [v]).toArray) (hz : vs.length ≤ 1000) (h : Q v s)
    (hs : subscripted slice false (.ref l) (.int (-1) u) = operate [.ref l, .int (-1) u] (getItem (.ref l) (.int (-1) u)) := by with_unfolding_all rfl) (ht : ∀ r, letTemporaryGo value (.ref l) r = pure () := by intro _; with_unfolding_all rfl) :
    wpAny (model prog w) A (subscriptTail value slice (.ref l) (.int (-1) u)) Q E s :=
  PyProof.Rows.tail_of_ItemOn ⟨"list", _, PySem.F.slot_list_getitem.lookup, hl.typeIs, getItem_last hl hz h⟩ hs ht
theorem setItem_last {h₀ : Heap} {L l : Addr} {m : Str → Option Value} {pre post : List (Addr × Obj)} {vs : List Value} {v v' : Value} {u : Tok} {c : Nat} {Q : Unit → Shared → Prop}
    (F : Fr h₀ L s.heap m) (N : News h₀ L s.heap (pre ++ (l, W.listOf (vs ++ [v]).toArray c) :: post)) (h1 : ∀ p ∈ pre, p.1 ≠ l) (h2 : ∀ p ∈ post, p.1 ≠ l) (hz : vs.length ≤ 1000)
    (h : ∀ h' c', Fr h₀ L h' m → News h₀ L h' (pre ++ (l, W.listOf (vs ++ [v']).toArray c') :: post) → Q () { s with heap := h' }) : wpAny (model prog w) A (setItem (.ref l) (.int (-1) u) v') Q E s := by
  have ho : s.heap.get? l = some (W.listOf (vs ++ [v]).toArray c) := (N (l, W.listOf (vs ++ [v]).toArray c) (by simp)).1
  have hl : s.heap.IsList l (vs ++ [v]).toArray := ⟨_, ho, rfl, _, rfl⟩
  have hd : (W.listOf (vs ++ [v]).toArray c).data = .seq (vs ++ [v]).toArray c := rfl
  unfold setItem
  try with_reducible refine wpAny_holding ?_
  first | refine wpAny_bind (wpAny_pure ?_) | skip
  refine wpAny_bind (wpAny_sequenceKey hl.typeIs (by decide) ?_)
  refine wpAny_bind (wpAny_callSpecial?_slot (name := Str.ofString "__setitem__") hl.typeIs PySem.F.slot_list_setitem
    (wpAny_call_entry PySem.F.slot_list_setitem hl.typeIs PySem.F.entry_list_setitem ?_ (PySem.F.args_list_setitem_3 _ _ _)))
  show wpAny _ _ (Builtin.List.listSubscript? (.int (-1) u) >>= _) _ _ s
  refine wpAny_bind (wpAny_listSubscript_int (fitsIndex_neg (by omega) (by omega)) ?_)
  have hx : (vs ++ [v]).toArray[vs.length]? = some v := by simp
  have e : ((-1 : Int) + ((vs ++ [v]).toArray.size : Nat)).toNat = vs.length := by simp; omega
  have hidx := seqIndex_neg (k := -1) (n := (vs ++ [v]).toArray.size) (by omega) (by simp; omega)
  rw [e] at hidx
  show wpAny _ _ ((Builtin.List.listItems (.ref l) >>= fun xs => pure ((seqIndex? (Int.negSucc 0) xs.size).bind fun i => xs[i]?.map (i, ·))) >>= _) _ _ s
  refine wpAny_bind (wpAny_bind ?_)
  show wpAny _ _ (seqItems? (.ref l) >>= _) _ _ s
  refine wpAny_bind (wpAny_seqItems ho hd (wpAny_pure (wpAny_pure ?_)))
  have hidx' : seqIndex? (Int.negSucc 0) (vs ++ [v]).toArray.size = some vs.length := hidx
  rw [hidx']
  simp only [Option.bind_some, hx, Option.map_some]
  show wpAny _ _ (setSeqItemAt l vs.length v' >>= _) _ _ s
  obtain ⟨F2, N2⟩ := news_upd (f := Obj.mapSeq (·.setIfInBounds vs.length v')) F N h1 h2 (o' := W.listOf (vs ++ [v']).toArray c) (by
    show W.listOf _ _ = W.listOf _ _
    simp [W.listOf]) rfl
  refine wpAny_bind (wpAny_setSeqItemAt ho hd ?_)
  first
    | exact wpAny_bind (wpAny_pure (wpAny_pure ⟨.none, rfl, wpAny_pure (h _ _ F2 N2)⟩))
    | exact wpAny_pure ⟨.none, rfl, wpAny_pure (h _ _ F2 N2)⟩
end
structure SgM (r : Nat) (tx : Tok) (l : List Nat) (m : Str → Option Value) : Prop where
  rights : m (Str.ofString "rights") = some (.int (r : Int) tx)
  signs : ∃ t, m (Str.ofString "signs") = some (.str (toS l) t)
def SgPost (g : Heap) (L : Addr) (s : Shared) (r : Nat) (tx : Tok) (l : List Nat) (news : List (Addr × Obj)) (f : Flow) (s' : Shared) : Prop :=
  f = .next ∧ ∃ h' tk m', s' = { s with heap := h', toks := tk } ∧ SgM r tx l m' ∧ Fr g L h' m' ∧ News g L h' news
theorem sg_join {M : Model} {A : Around} {E : Value → Shared → Prop} {g : Heap} {L : Addr} {s : Shared} {news : List (Addr × Obj)} {t : Sem Flow} {Q : Flow → Shared → Prop} (r : Nat) (tx : Tok) (l : List Nat) (_ : News g L s.heap news) (hA : wpAny M A t (SgPost g L s r tx l news) E s)
    (hB : ∀ h' tk m' u, Fr g L h' (kstB m' [(Str.ofString "rights", .int (r : Int) tx), (Str.ofString "signs", .str (toS l) u)]) → News g L h' news → Q .next { s with heap := h', toks := tk }) : wpAny M A t Q E s := by
  refine wpAny_mono hA (fun f s' h => ?_) (fun _ _ z => z)
  obtain ⟨rfl, h', tk, m', rfl, hm, F, N⟩ := h
  obtain ⟨u, hu⟩ := hm.signs
  refine hB h' tk m' u (fr_b F ?_) N
  intro q hq
  simp only [List.mem_cons, List.not_mem_nil, or_false] at hq
  rcases hq with rfl | rfl
  · exact hm.rights
  · exact hu
theorem toS_snoc (l : List Nat) (c : Nat) (x : Str) (h : x = ⟨#[c]⟩) : toS l ++ x = toS (l ++ [c]) := by
  subst h
  show (⟨l.toArray ++ #[c]⟩ : Str) = ⟨(l ++ [c]).toArray⟩
  simp
theorem rng9 : rangeItms 0 9 = [Itm.tok (fun t => .int 0 t), Itm.tok (fun t => .int 1 t), Itm.tok (fun t => .int 2 t), Itm.tok (fun t => .int 3 t), Itm.tok (fun t => .int 4 t), Itm.tok (fun t => .int 5 t), Itm.tok (fun t => .int 6 t), Itm.tok (fun t => .int 7 t), Itm.tok (fun t => .int 8 t)] := by rfl
section
variable {prog : Program} {w : World} {A : Around} {E : Value → Shared → Prop} {s : Shared} {t u : Tok}
theorem sub_known {x y z : Int} {Q : Value → Shared → Prop} (e : x - y = z) (h : Q (.int z s.toks) { s with toks := s.toks + 1 }) : wpAny (model prog w) A (binaryOp .Sub (.int x t) (.int y u)) Q E s := P.sub_int (by rw [e]; exact h)
theorem pow_known {x y z : Int} {Q : Value → Shared → Prop} (hn : 0 ≤ y) (hn2 : y ≤ 1000000) (ha : x.natAbs < 2 ^ 64) (e : x ^ y.toNat = z) (h : Q (.int z s.toks) { s with toks := s.toks + 1 }) : wpAny (model prog w) A (binaryOp .Pow (.int x t) (.int y u)) Q E s :=
  PyProof.Rows.pow_int_small hn hn2 ha (by rw [e]; exact h)
theorem pow2_known {y z : Int} {Q : Value → Shared → Prop} (hn : 0 ≤ y) (hn2 : y ≤ 100) (e : (2 : Int) ^ y.toNat = z) (h : Q (.int z s.toks) { s with toks := s.toks + 1 }) : wpAny (model prog w) A (binaryOp .Pow (.int 2 t) (.int y u)) Q E s :=
  pow_known hn (by omega) (by decide) e h
theorem fdiv_nat {r : Nat} {d : Int} {Q : Value → Shared → Prop} (h0 : 0 < d) (h1 : d ≤ 1000) (h : Q (.int ((r / d.toNat : Nat) : Int) s.toks) { s with toks := s.toks + 1 }) : wpAny (model prog w) A (binaryOp .FloorDiv (.int (r : Int) t) (.int d u)) Q E s := by
  have e : (r : Int).fdiv d = ((r / d.toNat : Nat) : Int) := by
    obtain ⟨k, rfl⟩ := Int.eq_ofNat_of_zero_le (Int.le_of_lt h0)
    rw [Int.fdiv_eq_ediv_of_nonneg _ (by omega)]
    simp
  refine PyProof.Rows.floordiv_int (by omega) (by rw [e]; exact h) (Or.inl (PyProof.noPylong_of_log2 ?_))
  have : d.natAbs ≤ 1000 := by omega
  have h2 : d.natAbs.log2 ≤ d.natAbs := Nat.log2_le_self _
  omega
theorem fmod2_nat {n : Nat} {Q : Value → Shared → Prop} (h : Q (.int ((n % 2 : Nat) : Int) s.toks) { s with toks := s.toks + 1 }) : wpAny (model prog w) A (binaryOp .Mod (.int (n : Int) t) (.int 2 u)) Q E s := by
  refine PyProof.Rows.mod_int' (by decide) ?_
  have e : (n : Int).fmod 2 = ((n % 2 : Nat) : Int) := by
    rw [Int.fmod_eq_emod_of_nonneg _ (by omega)]
    simp
  rw [e]; exact h
theorem truthy_known {x : Int} {b : Bool} {Q : Bool → Shared → Prop} (e : (x != 0) = b) (h : Q b s) : wpAny (model prog w) A (truthy (.int x t)) Q E s := P.truthy_int (by rw [e]; exact h)
end
theorem bit_facts : ∀ r : Fin 512, ((((r.val / (256 : Int).toNat % 2 : Nat) : Int)) != 0) = r.val.testBit 8 ∧ ((((r.val / (128 : Int).toNat % 2 : Nat) : Int)) != 0) = r.val.testBit 7 ∧ ((((r.val / (64 : Int).toNat % 2 : Nat) : Int)) != 0) = r.val.testBit 6 ∧ ((((r.val / (32 : Int).toNat % 2 : Nat) : Int)) != 0) = r.val.testBit 5 ∧ ((((r.val / (16 : Int).toNat % 2 : Nat) : Int)) != 0) = r.val.testBit 4 ∧
    ((((r.val / (8 : Int).toNat % 2 : Nat) : Int)) != 0) = r.val.testBit 3 ∧ ((((r.val / (4 : Int).toNat % 2 : Nat) : Int)) != 0) = r.val.testBit 2 ∧ ((((r.val / (2 : Int).toNat % 2 : Nat) : Int)) != 0) = r.val.testBit 1 ∧ ((((r.val / (1 : Int).toNat % 2 : Nat) : Int)) != 0) = r.val.testBit 0 := by decide +kernel
theorem mod_known {prog : Program} {w : World} {A : Around} {E : Value → Shared → Prop} {s : Shared} {t u : Tok} {x y z : Int} {Q : Value → Shared → Prop} (e : y ≠ 0 ∧ x.fmod y = z) (h : Q (.int z s.toks) { s with toks := s.toks + 1 }) : wpAny (model prog w) A (binaryOp .Mod (.int x t) (.int y u)) Q E s :=
  PyProof.Rows.mod_int' e.1 (by rw [e.2]; exact h)
theorem ofs_d : Str.ofString "d" = toS [100] := by decide +kernel
theorem ofs_m : Str.ofString "-" = ⟨#[45]⟩ := by decide +kernel
theorem rwx0 : Txt.item (Str.ofString "rwx") 0 = ⟨#[114]⟩ := by decide +kernel
theorem rwx1 : Txt.item (Str.ofString "rwx") 1 = ⟨#[119]⟩ := by decide +kernel
theorem rwx2 : Txt.item (Str.ofString "rwx") 2 = ⟨#[120]⟩ := by decide +kernel
theorem rwx_item {prog : Program} {w : World} {A : Around} {E : Value → Shared → Prop} {s : Shared} {value slice : Expr} {t u : Tok} {i : Int} {x : Str} {Q : Value → Shared → Prop} (h0 : 0 ≤ i) (h2 : i < 3) (e : Txt.item (Str.ofString "rwx") i = x)
    (hs : subscripted slice false (.str (Str.ofString "rwx") t) (.int i u) = operate [.str (Str.ofString "rwx") t, .int i u] (getItem (.str (Str.ofString "rwx") t) (.int i u)))
    (ht : ∀ r, letTemporaryGo value (.str (Str.ofString "rwx") t) r = pure ()) (h : Q (.str x s.toks) { s with toks := s.toks + 1 }) :
    wpAny (model prog w) A (subscriptTail value slice (.str (Str.ofString "rwx") t) (.int i u)) Q E s := by
  have hl : (Str.ofString "rwx").length = 3 := by decide +kernel
  have hf : fitsSsize i = true := by
    have : i = 0 ∨ i = 1 ∨ i = 2 := by omega
    rcases this with rfl | rfl | rfl <;> decide
  exact PyProof.Rows.item_str hf (by rw [hl]; omega) (by rw [hl]; omega) (fun _ => by rw [e]; exact h) hs ht
theorem iadd_sg {prog : Program} {w : World} {A : Around} {E : Value → Shared → Prop} {s : Shared} {x y : Str} {l : List Nat} {c : Nat} {t u : Tok} {Q : Value → Shared → Prop} (hx : x = toS l) (hy : y = ⟨#[c]⟩) (h0 : 0 < l.length) (hz : l.length ≤ 20)
    (h : ∀ t' tk, Q (.str (toS (l ++ [c])) t') { s with toks := tk }) : wpAny (model prog w) A (inplaceOp .Add (.str x t) (.str y u)) Q E s := by
  subst hx
  refine P.iadd_str ?_
  have hl : (toS l).length = l.length := by show l.toArray.size = _; simp
  have hyl : y.length = 1 := by subst hy; rfl
  rw [toS_snoc l c y hy]
  have e1 : ((toS l).length == 0) = false := beq_eq_false_iff_ne.mpr (by omega)
  have e2 : (y.length == 0) = false := beq_eq_false_iff_ne.mpr (by omega)
  rw [e1, e2]
  refine ⟨?_, h _ _⟩
  rw [PySem.sizeLine_eq]
  show (l ++ [c]).toArray.size ≤ _
  simp; omega
theorem sg_end {g : Heap} {L : Addr} {s : Shared} {r : Nat} {tx u : Tok} {l : List Nat} {b : Bool} {k c : Nat} {news : List (Addr × Obj)} {h' : Heap} {tk : Nat} {m' : Str → Option Value} (F : Fr g L h' m') (N : News g L h' news)
    (h1 : m' (Str.ofString "rights") = some (.int (r : Int) tx)) (h2 : m' (Str.ofString "signs") = some (.str (toS (l ++ [c])) u)) (hc : (if b = true then k else 45) = c) : SgPost g L s r tx (l ++ [if b = true then k else 45]) news .next { s with heap := h', toks := tk } := by
  subst hc
  exact ⟨rfl, h', tk, m', rfl, ⟨h1, u, h2⟩, F, N⟩
local macro_rules | `(tactic| walk_at "exec For Name Call cons nil") => `(tactic| (k_here; (rename Fr _ _ _ _ => lF'); (with_unfolding_all refine' For_turns lF' ?_; k_whole)))
local macro_rules | `(tactic| walk_at "call type:range") => `(tactic| (k_here; (with_reducible show wpAny _ _ (call (Value.type _) [Value.int 9 _]) (fun xv s₁ => wpAny _ _ (pyIter xv) (fun it s₂ => TurnsAt _ _ _ _ _ _ _ _ _ it s₂) _ s₁) _ _); (with_unfolding_all refine' range1_T (n := 9) ?z rng9 ?h ?F ?N ?_; (case z => decide); (case h => with_unfolding_all rfl); (case F => k_asm); (case N => k_asm); k_whole); intro i' l1; (try k_lt l1)))
local macro_rules | `(tactic| walk_at "binaryOp Sub int int") => `(tactic| (k_here; k_dflt (refine' sub_known ?e ?_; (case e => first | exact (rfl : (8 : Int) - 0 = 8) | exact (rfl : (8 : Int) - 1 = 7) | exact (rfl : (8 : Int) - 2 = 6) | exact (rfl : (8 : Int) - 3 = 5) | exact (rfl : (8 : Int) - 4 = 4) | exact (rfl : (8 : Int) - 5 = 3) | exact (rfl : (8 : Int) - 6 = 2) | exact (rfl : (8 : Int) - 7 = 1) | exact (rfl : (8 : Int) - 8 = 0)))))
local macro_rules | `(tactic| walk_at "binaryOp Pow int int") => `(tactic| (k_here; k_dflt (refine' pow2_known ?a ?b ?e ?_; (case e => first | exact (by decide : (2 : Int) ^ (8 : Int).toNat = 256) | exact (by decide : (2 : Int) ^ (7 : Int).toNat = 128) | exact (by decide : (2 : Int) ^ (6 : Int).toNat = 64) | exact (by decide : (2 : Int) ^ (5 : Int).toNat = 32) | exact (by decide : (2 : Int) ^ (4 : Int).toNat = 16) | exact (by decide : (2 : Int) ^ (3 : Int).toNat = 8) | exact (by decide : (2 : Int) ^ (2 : Int).toNat = 4) | exact (by decide : (2 : Int) ^ (1 : Int).toNat = 2) | exact (by decide : (2 : Int) ^ (0 : Int).toNat = 1)); (case a => decide); (case b => decide))))
local macro_rules | `(tactic| walk_at "binaryOp FloorDiv int int") => `(tactic| (k_here; k_dflt (refine' fdiv_nat ?a ?b ?_; (case a => decide); (case b => decide))))
local macro_rules | `(tactic| walk_at "binaryOp Mod int int") => `(tactic| (k_here; first | (with_reducible refine' fmod2_nat ?_) | (with_reducible refine' mod_known ?e ?_; (case e => with_reducible first | exact (by decide : (3 : Int) ≠ 0 ∧ (0 : Int).fmod 3 = 0) | exact (by decide : (3 : Int) ≠ 0 ∧ (1 : Int).fmod 3 = 1) | exact (by decide : (3 : Int) ≠ 0 ∧ (2 : Int).fmod 3 = 2) | exact (by decide : (3 : Int) ≠ 0 ∧ (3 : Int).fmod 3 = 0) | exact (by decide : (3 : Int) ≠ 0 ∧ (4 : Int).fmod 3 = 1) | exact (by decide : (3 : Int) ≠ 0 ∧ (5 : Int).fmod 3 = 2) | exact (by decide : (3 : Int) ≠ 0 ∧ (6 : Int).fmod 3 = 0) | exact (by decide : (3 : Int) ≠ 0 ∧ (7 : Int).fmod 3 = 1) | exact (by decide : (3 : Int) ≠ 0 ∧ (8 : Int).fmod 3 = 2)))))
local macro_rules | `(tactic| walk_at "truthy int") => `(tactic| (k_here; k_dflt (refine truthy_known (by with_reducible assumption) ?_)))
local macro_rules | `(tactic| walk_at "subscriptTail") => `(tactic| (k_here; (with_reducible show wpAny _ _ (subscriptTail _ _ (Value.str (Str.ofString "rwx") _) (Value.int _ _)) _ _ _); k_dflt (refine' rwx_item ?a ?b ?e ?hs ?ht ?_; (case e => with_reducible first | exact rwx0 | exact rwx1 | exact rwx2); (case a => decide); (case b => decide); (case hs => with_unfolding_all rfl); (case ht => (intro _; with_unfolding_all rfl)))))
local macro_rules | `(tactic| walk_at "subscriptTail Constant") => `(tactic| walk_at "subscriptTail")
local macro_rules | `(tactic| walk_at "inplaceOp Add str str") => `(tactic| (k_here; k_dflt (refine' iadd_sg ?x ?y ?a ?b ?_; (case x => first | with_reducible exact ofs_d | with_reducible exact rfl); (case y => first | with_reducible exact ofs_m | with_reducible exact rfl); (case a => exact Nat.le_of_ble_eq_true rfl); (case b => exact Nat.le_of_ble_eq_true rfl); intro _ _)))
def dstep (acc : List (List Nat)) (c : Nat) : List (List Nat) :=
  if c = 45 then acc ++ [[c]] else if acc = [] then acc ++ [[c]] else if acc.getLast? = some [45] then acc ++ [[c]] else acc.dropLast ++ [acc.getLast?.getD [] ++ [c]]
def dueL (l : List Nat) : List (List Nat) := l.foldl dstep []
def StrsQ (vs : List Value) (ts : List (List Nat)) : Prop := ∃ ls : List (List Nat × Nat), vs = ls.map tokV ∧ ls.map (·.1) = ts
theorem StrsP.toQ {k : Nat} {vs : List Value} {ts : List (List Nat)} (h : StrsP k vs ts) : StrsQ vs ts := let ⟨ls, a, b, _⟩ := h; ⟨ls, a, b⟩
theorem StrsQ.nil : StrsQ [] [] := ⟨[], rfl, rfl⟩
theorem StrsQ.snoc {vs : List Value} {ts : List (List Nat)} (h : StrsQ vs ts) (y : List Nat) (t : Nat) : StrsQ (vs ++ [.str (toS y) t]) (ts ++ [y]) := by
  obtain ⟨ls, rfl, rfl⟩ := h
  exact ⟨ls ++ [(y, t)], by simp [tokV], by simp⟩
theorem StrsQ.length {vs : List Value} {ts : List (List Nat)} (h : StrsQ vs ts) : vs.length = ts.length := by
  obtain ⟨ls, rfl, rfl⟩ := h; simp
theorem StrsQ.last {vs : List Value} {ts : List (List Nat)} {y : List Nat} (h : StrsQ vs (ts ++ [y])) : ∃ vs' t, vs = vs' ++ [.str (toS y) t] ∧ StrsQ vs' ts := by
  obtain ⟨ls, rfl, e⟩ := h
  rcases List.eq_nil_or_concat ls with rfl | ⟨l', p, rfl⟩
  · simp at e
  · simp only [List.concat_eq_append, List.map_append, List.map_cons, List.map_nil] at e ⊢
    obtain ⟨e1, e2⟩ := List.append_inj' e rfl
    injection e2 with e2
    exact ⟨l'.map tokV, p.2, by rw [← e2]; rfl, l', rfl, e1⟩
section
variable {prog : Program} {w : World} {A : Around} {E : Value → Shared → Prop} {s : Shared} {env : Env} {g : Heap} {x : Str} {px : Pos} {body : List Stmt} {Q : Flow → Shared → Prop}
abbrev DuTurn (prog : Program) (w : World) (A : Around) (E : Value → Shared → Prop) (s : Shared) (env : Env) (g : Heap) (x : Str) (px : Pos) (body : List Stmt) (I tl : Nat) (base : List (Addr × Obj)) (c : Nat) (vs : List Value) (fin : List Value → Prop) : Prop :=
  ∀ (Qn : Flow → Shared → Prop) (o : Obj) (h : Heap) (tk : Nat) (m : Str → Option Value) (n : Nat) (u : Tok), o.cls = .type "str_ascii_iterator" → Fr g env.locals h (kstB m [(Str.ofString "tokens", .ref tl)]) →
    News g env.locals h ((I, o) :: (tl, W.listOf vs.toArray n) :: base) → (tl < I ∧ AllLt I base) → (∀ p ∈ base, p.1 ≠ tl) →
    (∀ h' tk' m' n' vs', Fr g env.locals h' m' → m' (Str.ofString "tokens") = some (.ref tl) → News g env.locals h' ((I, o) :: (tl, W.listOf vs'.toArray n') :: base) → fin vs' → Qn .next { s with heap := h', toks := tk' }) →
    wpAny (model prog w) A (assign (.Name x px) env (.str ⟨#[c]⟩ u)) (fun _ s₂ => wpAny (model prog w) A (execs body env) Qn E s₂) E { s with heap := h, toks := tk }
theorem allLt_mk {d : Nat} : ∀ {l : List (Addr × Obj)}, (∀ p ∈ l, @LT.lt Nat _ p.1 d) → AllLt d l
  | [], _ => trivial
  | p :: _, h => ⟨h p (.head _), allLt_mk fun q hq => h q (.tail _ hq)⟩
theorem due_iter {l : List Nat} {tl : Nat} {base : List (Addr × Obj)} {n : Nat} {u : Tok} {m : Str → Option Value} (hh : A.handled = none) (F : Fr g env.locals s.heap m) (N : News g env.locals s.heap ((tl, W.listOf #[] n) :: base))
    (hm : m (Str.ofString "tokens") = some (.ref tl)) (hb0 : ∀ p ∈ base, @LT.lt Nat _ p.1 tl) (hl : ∀ c ∈ l, c = 45 ∨ Lett c) (hz : l.length ≤ 20)
    (T1 : ∀ I vs, vs.length ≤ 20 → DuTurn prog w A E s env g x px body I tl base 45 vs (fun vs' => ∃ t, vs' = vs ++ [.str ⟨#[45]⟩ t]))
    (T2 : ∀ I c, Lett c → DuTurn prog w A E s env g x px body I tl base c [] (fun vs' => ∃ t, vs' = [.str ⟨#[c]⟩ t]))
    (T3 : ∀ I c vs t0, Lett c → vs.length ≤ 20 → DuTurn prog w A E s env g x px body I tl base c (vs ++ [.str ⟨#[45]⟩ t0]) (fun vs' => ∃ t, vs' = (vs ++ [.str ⟨#[45]⟩ t0]) ++ [.str ⟨#[c]⟩ t]))
    (T4 : ∀ I c vs y t0, Lett c → vs.length ≤ 20 → y ≠ [45] → 0 < (toS y).length → (toS y).length ≤ 20 → DuTurn prog w A E s env g x px body I tl base c (vs ++ [.str (toS y) t0]) (fun vs' => ∃ t, vs' = vs ++ [.str (toS y ++ ⟨#[c]⟩) t]))
    (fin : ∀ h' tk' m' n' vs', Fr g env.locals h' m' → m' (Str.ofString "tokens") = some (.ref tl) → News g env.locals h' ((tl, W.listOf vs'.toArray n') :: base) → StrsQ vs' (dueL l) → Q .next { s with heap := h', toks := tk' }) :
    wpAny (model prog w) A (pyIter (.str (toS l) u)) (fun it s₂ => TurnsAt prog w A g env (.Name x px) body Q E it s₂) E s := by
  have ha : (toS l).cps.all (· < 128) = true := by
    show l.toArray.all (· < 128) = true
    simp only [List.all_toArray, List.all_eq_true, decide_eq_true_eq]
    intro c hc
    rcases hl c hc with rfl | rfl | rfl | rfl | rfl <;> decide
  refine iter_strT ha hh F N fun I hI => ?_
  have hI1 : @LT.lt Nat _ tl I := hI (tl, W.listOf #[] n) (.head _)
  have hI2 : AllLt I base := allLt_mk fun p hp => hI p (.tail _ hp)
  refine rest_of_J (fun i m' news' => ∃ vs n', news' = (tl, W.listOf vs.toArray n') :: base ∧ m' (Str.ofString "tokens") = some (.ref tl) ∧ StrsQ vs ((l.take i).foldl dstep []) ∧ (∀ y ∈ (l.take i).foldl dstep [], 0 < y.length ∧ y.length ≤ i) ∧ vs.length ≤ i) ?_ ?_ ⟨[], n, rfl, hm, .nil, (fun y hy => by simp at hy), Nat.le_refl _⟩
  · rintro i a m₁ news₁ v h tk hia ⟨vs, n', rfl, hm₁, hq, hb, hvl⟩ hv F₁ o ho N₁
    have hs : (toS l).cps.toList = l := rfl
    rw [hs] at hia
    unfold strItms at hia
    rw [List.getElem?_map] at hia
    obtain ⟨c, hc, rfl⟩ := Option.map_eq_some_iff.mp hia
    obtain ⟨t, rfl⟩ := hv
    have hi : i < l.length := (List.getElem?_eq_some_iff.mp hc).1
    have htk : l.take (i + 1) = l.take i ++ [c] := by rw [List.take_add_one, hc]; rfl
    have F₂ := fr_b F₁ (ps := [(Str.ofString "tokens", Value.ref tl)]) (by intro q hq; rw [List.mem_singleton.mp hq]; exact hm₁)
    have done : ∀ vs', StrsQ vs' (dstep ((l.take i).foldl dstep []) c) → (∀ y ∈ dstep ((l.take i).foldl dstep []) c, 0 < y.length ∧ y.length ≤ i + 1) → vs'.length ≤ i + 1 → ∀ h' tk' m' n'', Fr g env.locals h' m' → m' (Str.ofString "tokens") = some (.ref tl) → News g env.locals h' ((I, o) :: (tl, W.listOf vs'.toArray n'') :: base) →
        UnrPostW g env.locals { s with heap := h, toks := tk } [(I, o)] (fun m' n' => SubL [] n' ∧ ∃ vs n'', n' = (tl, W.listOf vs.toArray n'') :: base ∧ m' (Str.ofString "tokens") = some (.ref tl) ∧ StrsQ vs ((l.take (i + 1)).foldl dstep []) ∧ (∀ y ∈ (l.take (i + 1)).foldl dstep [], 0 < y.length ∧ y.length ≤ i + 1) ∧ vs.length ≤ i + 1) Q .next { s with heap := h', toks := tk' } := by
      intro vs' hq' hb' hv' h' tk' m' n'' F' hm' N'
      refine ⟨h', tk', m', _, rfl, F', N', ?_, trivial, vs', n'', rfl, hm', ?_, ?_, hv'⟩
      · intro p hp q hq
        rw [List.mem_singleton.mp hq]
        rcases List.mem_cons.mp hp with rfl | hp
        · exact Nat.ne_of_lt hI1
        · exact Nat.ne_of_lt (hI p (.tail _ hp))
      · rw [htk, List.foldl_append]; exact hq'
      · rw [htk, List.foldl_append]; exact hb'
    generalize hacc : (l.take i).foldl dstep [] = acc at *
    have app : dstep acc c = acc ++ [[c]] → ∀ h' tk' m' n'' vs', Fr g env.locals h' m' → m' (Str.ofString "tokens") = some (.ref tl) → News g env.locals h' ((I, o) :: (tl, W.listOf vs'.toArray n'') :: base) → (∃ t, vs' = vs ++ [.str ⟨#[c]⟩ t]) →
        UnrPostW g env.locals { s with heap := h, toks := tk } [(I, o)] (fun m' n' => SubL [] n' ∧ ∃ vs n'', n' = (tl, W.listOf vs.toArray n'') :: base ∧ m' (Str.ofString "tokens") = some (.ref tl) ∧ StrsQ vs ((l.take (i + 1)).foldl dstep []) ∧ (∀ y ∈ (l.take (i + 1)).foldl dstep [], 0 < y.length ∧ y.length ≤ i + 1) ∧ vs.length ≤ i + 1) Q .next { s with heap := h', toks := tk' } := fun e h' tk' m' n'' vs' F' hm' N' hx => by
      obtain ⟨t, rfl⟩ := hx
      refine done _ (by rw [e]; exact hq.snoc [c] t) ?_ (by simp; omega) h' tk' m' n'' F' hm' N'
      rw [e]
      intro y hy
      rcases List.mem_append.mp hy with hy | hy
      · have := hb y hy; omega
      · rw [List.mem_singleton.mp hy]; simp
    rcases hl c (List.mem_of_getElem? hc) with rfl | hlet
    · exact T1 I vs (by omega) _ o h tk m₁ n' t ho F₂ N₁ ⟨hI1, hI2⟩ (fun p hp => Nat.ne_of_lt (hb0 p hp)) (app (by simp [dstep]))
    · have hc45 := lett_ne hlet
      rcases List.eq_nil_or_concat acc with hnil | ⟨acc', y, hcc⟩
      · have hvs : vs = [] := by
          have := hq.length; rw [hnil] at this; exact List.eq_nil_of_length_eq_zero this
        subst hvs
        exact T2 I c hlet _ o h tk m₁ n' t ho F₂ N₁ ⟨hI1, hI2⟩ (fun p hp => Nat.ne_of_lt (hb0 p hp)) (app (by simp [dstep, hc45, hnil]))
      · rw [List.concat_eq_append] at hcc
        subst hcc
        obtain ⟨vs₀, t0, rfl, hq₀⟩ := hq.last
        have hvl' : vs₀.length ≤ 20 := by simp at hvl; omega
        by_cases hy : y = [45]
        · subst hy
          exact T3 I c vs₀ t0 hlet hvl' _ o h tk m₁ n' t ho F₂ N₁ ⟨hI1, hI2⟩ (fun p hp => Nat.ne_of_lt (hb0 p hp)) (app (by simp [dstep, hc45]))
        · have hyb := hb y (by simp)
          have hyl : (toS y).length = y.length := by show y.toArray.size = _; simp
          have e : dstep (acc' ++ [y]) c = acc' ++ [y ++ [c]] := by simp [dstep, hc45, hy]
          refine T4 I c vs₀ y t0 hlet hvl' hy (by omega) (by omega) _ o h tk m₁ n' t ho F₂ N₁ ⟨hI1, hI2⟩ (fun p hp => Nat.ne_of_lt (hb0 p hp)) fun h' tk' m' n'' vs' F' hm' N' hx => ?_
          obtain ⟨t', rfl⟩ := hx
          refine done _ (by rw [e, toS_snoc y c _ rfl]; exact hq₀.snoc _ t') ?_ (by simp at hvl ⊢; omega) h' tk' m' n'' F' hm' N'
          rw [e]
          intro z hz
          rcases List.mem_append.mp hz with hz | hz
          · have := hb z (by simp [hz]); omega
          · rw [List.mem_singleton.mp hz]; simp; omega
  · rintro m₁ news₁ h tk ⟨vs, n', rfl, hm₁, hq, -, -⟩ F₁ N₁
    refine fin h tk m₁ n' vs F₁ hm₁ N₁ ?_
    have : (strItms (toS l).cps.toList).length = l.length := by simp [strItms, toS]
    rw [this, List.take_length] at hq
    exact hq
end
section
variable {prog : Program} {w : World} {A : Around} {E : Value → Shared → Prop} {s : Shared} {t u : Tok}
theorem let_eq_m {c : Nat} {Q : Value → Shared → Prop} (hL : Lett c) (h : Q (.bool false) s) : wpAny (model prog w) A (compareOp .Eq (.str ⟨#[c]⟩ t) (.str (Str.ofString "-") u)) Q E s := by
  refine PyProof.Rows.eq_str ?_
  have e : ((⟨#[c]⟩ : Str) == Str.ofString "-") = false := by rcases hL with rfl | rfl | rfl | rfl <;> decide +kernel
  rw [e]; exact h
theorem word_eq_m {y : List Nat} {Q : Value → Shared → Prop} (hy : y ≠ [45]) (h : Q (.bool false) s) : wpAny (model prog w) A (compareOp .Eq (.str (toS y) t) (.str (Str.ofString "-") u)) Q E s := by
  refine PyProof.Rows.eq_str ?_
  have e : ((toS y) == Str.ofString "-") = false := by
    rw [ofs_m]
    refine beq_eq_false_iff_ne.mpr fun e => hy ?_
    injection e with e
    have := congrArg Array.toList e
    simpa using this
  rw [e]; exact h
theorem eq_nil0 {a b : Addr} {Q : Value → Shared → Prop} (ha : s.heap.IsList a #[]) (hb : s.heap.IsList b #[]) (hu : A.units < cLine) (h : Q (.bool true) s) : wpAny (model prog w) A (compareOp .Eq (.ref a) (.ref b)) Q E s :=
  SeqAt.eq_listAt (e := fun _ => true) ha hb rfl hu (fun j h1 _ => absurd h1 (Nat.not_lt_zero _)) h
theorem eq_nil1 {a b : Addr} {vs : List Value} {v : Value} {Q : Value → Shared → Prop} (ha : s.heap.IsList a (vs ++ [v]).toArray) (hb : s.heap.IsList b #[]) (hu : A.units < cLine) (h : Q (.bool false) s) : wpAny (model prog w) A (compareOp .Eq (.ref a) (.ref b)) Q E s :=
  SeqAt.eq_list_lengthsAt ha hb (by simp) hu h
end
theorem push_conv {g : Heap} {L tl : Addr} {h : Heap} {q : Addr × Obj} {vs : List Value} {v : Value} {c : Nat} {base : List (Addr × Obj)} (N : News g L h (q :: (tl, W.listOf (vs.toArray.push v) c) :: base)) : News g L h (q :: (tl, W.listOf (vs ++ [v]).toArray c) :: base) := by
  have e : vs.toArray.push v = (vs ++ [v]).toArray := by simp
  rw [e] at N; exact N
local macro_rules | `(tactic| walk_at "exec For Name Name cons nil") => `(tactic| (k_here; (with_reducible show wpAny _ _ (exec (Stmt.For _ (Expr.Name (Str.ofString "signs") _) _ _ _) _) _ _ _); (rename Fr _ _ _ _ => lF'); (with_unfolding_all refine' For_turns lF' ?_; k_whole)))
local macro_rules | `(tactic| walk_at "compareOp Eq str str") => `(tactic| (k_here; first | with_reducible refine let_eq_m (by with_reducible assumption) ?_ | with_reducible refine word_eq_m (by with_reducible assumption) ?_))
local macro_rules | `(tactic| walk_at "compareOp Eq ref ref") => `(tactic| (k_here; k_dflt first
  | (refine' eq_nil0 (News.isList ?N ?M) (News.isList ?N2 ?M2) ?u ?_; (case N => k_asm); (case M => k_mem); (case N2 => k_asm); (case M2 => k_mem); (case u => ktr_units))
  | (refine' eq_nil1 (News.isList ?N ?M) (News.isList ?N2 ?M2) ?u ?_; (case N => k_asm); (case M => k_mem); (case N2 => k_asm); (case M2 => k_mem); (case u => ktr_units))))
local macro_rules | `(tactic| walk_at "subscriptTail Name") => `(tactic| (k_here; (with_reducible show wpAny _ _ (subscriptTail _ _ (Value.ref _) (Value.int (-1) _)) _ _ _); k_dflt (refine' item_last (News.isList ?N ?M) ?z ?_ ?hs ?ht; (case N => k_asm); (case M => k_mem); (case z => omega); (case hs => with_unfolding_all rfl); (case ht => (intro _; with_unfolding_all rfl)))))
local macro_rules | `(tactic| walk_at "getItem ref") => `(tactic| (k_here; k_dflt (refine' getItem_last (News.isList ?N ?M) ?z ?_; (case N => k_asm); (case M => k_mem); (case z => omega))))
local macro_rules | `(tactic| walk_at "setItem ref") => `(tactic| (k_here; k_dflt first
  | (refine' setItem_last (pre := [_, _]) ?F ?N ?h1 ?h2 ?z ?_; (case F => k_asm); (case N => k_asm); (case h1 => k_all); (case h2 => k_all); (case z => omega); intro h' c' F' N')
  | (refine' setItem_last (pre := [_]) ?F ?N ?h1 ?h2 ?z ?_; (case F => k_asm); (case N => k_asm); (case h1 => k_all); (case h2 => k_all); (case z => omega); intro h' c' F' N')))
section
variable {w : World} {loose : List Str} {mean : ExcName → Option Value} {mg mb : Str → Option Value} {news : List (Addr × Obj)} {un : Nat} {dp : Nat} {gd : Option (List Code)} {cn : Str} {nm : List (Str × NameKind)} {ig ic : Bool} {mo : List (Str × Const)} {a : Addr} {ccd : Value} {cl : List (Str × Addr)} {outer : List Env} {A₀ : Around} {base h₀ : Heap} {L : Addr} {m : Str → Option Value} {s : Shared} {Q E : Value → Shared → Prop}
theorem c_due {r : Nat} {tx : Tok} (B : Below A₀ base outer h₀) (F : Fr h₀ L s.heap m) (X : (hd.heap_39 w.params).In h₀) (N : News h₀ L s.heap news) (T : Top hd.view_39 loose mean mg mb h₀) (hr : r < 512) (hdp : dp + 20 < recursionLimit) (hun : un + 90 < cLine)
    (ret : ∀ (S : Nat) vs c h' tk', StrsQ vs (dueL (lst r)) → Fr h₀ L h' m → News h₀ L h' ((S, W.listOf vs.toArray c) :: news) → (∀ p ∈ news, @LT.lt Nat _ p.1 S) → Q (.ref S) { s with heap := h', toks := tk' }) :
    wpAny (model PG w) (ktrTop dp un gd cn ⟨.function, nm, ig, ic, mo⟩ L a ccd cl outer) (call (.ref 829) [.int (r : Int) tx]) Q E s := by
  obtain ⟨f8, f7, f6, f5, f4, f3, f2, f1, f0⟩ := bit_facts ⟨r, hr⟩
  dsimp only at f8 f7 f6 f5 f4 f3 f2 f1 f0
  repeat' (first | (k_unfold; (try dsimp only)) | ((fail_if_success (with_reducible show wpAny _ _ (exec (Stmt.AugAssign _ _ _ _) _) _ _ _)); (fail_if_success (with_reducible show wpAny _ _ (exec (Stmt.For _ (Expr.Name _ _) _ _ _) _) _ _ _)); first | walk1 | (dsimp only; walk1)))
  refine' sg_join r tx ([100] ++ [if r.testBit 8 then 114 else 45]) ?N ?A ?_
  case N => k_asm
  case A =>
    walk1
    k_steps
    all_goals (refine' sg_end ?F ?N ?h1 ?h2 ?hc; (case F => k_asm); (case N => k_asm); (case h1 => rfl); (case h2 => rfl); (case hc => first | exact if_pos (by assumption) | exact if_neg (by first | assumption | exact Bool.eq_false_iff.mp (by assumption))))
  intro h' tk' m' u' F' N'
  (try k_sweep)
  repeat' (first | (k_unfold; (try dsimp only)) | ((fail_if_success (with_reducible show wpAny _ _ (exec (Stmt.AugAssign _ _ _ _) _) _ _ _)); (fail_if_success (with_reducible show wpAny _ _ (exec (Stmt.For _ (Expr.Name _ _) _ _ _) _) _ _ _)); first | walk1 | (dsimp only; walk1)))
  refine' sg_join r tx (([100] ++ [if r.testBit 8 then 114 else 45]) ++ [if r.testBit 7 then 119 else 45]) ?N ?A ?_
  case N => k_asm
  case A =>
    walk1
    k_steps
    all_goals (refine' sg_end ?F ?N ?h1 ?h2 ?hc; (case F => k_asm); (case N => k_asm); (case h1 => rfl); (case h2 => rfl); (case hc => first | exact if_pos (by assumption) | exact if_neg (by first | assumption | exact Bool.eq_false_iff.mp (by assumption))))
  intro h' tk' m' u' F' N'
  (try k_sweep)
  repeat' (first | (k_unfold; (try dsimp only)) | ((fail_if_success (with_reducible show wpAny _ _ (exec (Stmt.AugAssign _ _ _ _) _) _ _ _)); (fail_if_success (with_reducible show wpAny _ _ (exec (Stmt.For _ (Expr.Name _ _) _ _ _) _) _ _ _)); first | walk1 | (dsimp only; walk1)))
  refine' sg_join r tx ((([100] ++ [if r.testBit 8 then 114 else 45]) ++ [if r.testBit 7 then 119 else 45]) ++ [if r.testBit 6 then 120 else 45]) ?N ?A ?_
  case N => k_asm
  case A =>
    walk1
    k_steps
    all_goals (refine' sg_end ?F ?N ?h1 ?h2 ?hc; (case F => k_asm); (case N => k_asm); (case h1 => rfl); (case h2 => rfl); (case hc => first | exact if_pos (by assumption) | exact if_neg (by first | assumption | exact Bool.eq_false_iff.mp (by assumption))))
  intro h' tk' m' u' F' N'
  (try k_sweep)
  repeat' (first | (k_unfold; (try dsimp only)) | ((fail_if_success (with_reducible show wpAny _ _ (exec (Stmt.AugAssign _ _ _ _) _) _ _ _)); (fail_if_success (with_reducible show wpAny _ _ (exec (Stmt.For _ (Expr.Name _ _) _ _ _) _) _ _ _)); first | walk1 | (dsimp only; walk1)))
  refine' sg_join r tx (((([100] ++ [if r.testBit 8 then 114 else 45]) ++ [if r.testBit 7 then 119 else 45]) ++ [if r.testBit 6 then 120 else 45]) ++ [if r.testBit 5 then 114 else 45]) ?N ?A ?_
  case N => k_asm
  case A =>
    walk1
    k_steps
    all_goals (refine' sg_end ?F ?N ?h1 ?h2 ?hc; (case F => k_asm); (case N => k_asm); (case h1 => rfl); (case h2 => rfl); (case hc => first | exact if_pos (by assumption) | exact if_neg (by first | assumption | exact Bool.eq_false_iff.mp (by assumption))))
  intro h' tk' m' u' F' N'
  (try k_sweep)
  repeat' (first | (k_unfold; (try dsimp only)) | ((fail_if_success (with_reducible show wpAny _ _ (exec (Stmt.AugAssign _ _ _ _) _) _ _ _)); (fail_if_success (with_reducible show wpAny _ _ (exec (Stmt.For _ (Expr.Name _ _) _ _ _) _) _ _ _)); first | walk1 | (dsimp only; walk1)))
  refine' sg_join r tx ((((([100] ++ [if r.testBit 8 then 114 else 45]) ++ [if r.testBit 7 then 119 else 45]) ++ [if r.testBit 6 then 120 else 45]) ++ [if r.testBit 5 then 114 else 45]) ++ [if r.testBit 4 then 119 else 45]) ?N ?A ?_
  case N => k_asm
  case A =>
    walk1
    k_steps
    all_goals (refine' sg_end ?F ?N ?h1 ?h2 ?hc; (case F => k_asm); (case N => k_asm); (case h1 => rfl); (case h2 => rfl); (case hc => first | exact if_pos (by assumption) | exact if_neg (by first | assumption | exact Bool.eq_false_iff.mp (by assumption))))
  intro h' tk' m' u' F' N'
  (try k_sweep)
  repeat' (first | (k_unfold; (try dsimp only)) | ((fail_if_success (with_reducible show wpAny _ _ (exec (Stmt.AugAssign _ _ _ _) _) _ _ _)); (fail_if_success (with_reducible show wpAny _ _ (exec (Stmt.For _ (Expr.Name _ _) _ _ _) _) _ _ _)); first | walk1 | (dsimp only; walk1)))
  refine' sg_join r tx (((((([100] ++ [if r.testBit 8 then 114 else 45]) ++ [if r.testBit 7 then 119 else 45]) ++ [if r.testBit 6 then 120 else 45]) ++ [if r.testBit 5 then 114 else 45]) ++ [if r.testBit 4 then 119 else 45]) ++ [if r.testBit 3 then 120 else 45]) ?N ?A ?_
  case N => k_asm
  case A =>
    walk1
    k_steps
    all_goals (refine' sg_end ?F ?N ?h1 ?h2 ?hc; (case F => k_asm); (case N => k_asm); (case h1 => rfl); (case h2 => rfl); (case hc => first | exact if_pos (by assumption) | exact if_neg (by first | assumption | exact Bool.eq_false_iff.mp (by assumption))))
  intro h' tk' m' u' F' N'
  (try k_sweep)
  repeat' (first | (k_unfold; (try dsimp only)) | ((fail_if_success (with_reducible show wpAny _ _ (exec (Stmt.AugAssign _ _ _ _) _) _ _ _)); (fail_if_success (with_reducible show wpAny _ _ (exec (Stmt.For _ (Expr.Name _ _) _ _ _) _) _ _ _)); first | walk1 | (dsimp only; walk1)))
  refine' sg_join r tx ((((((([100] ++ [if r.testBit 8 then 114 else 45]) ++ [if r.testBit 7 then 119 else 45]) ++ [if r.testBit 6 then 120 else 45]) ++ [if r.testBit 5 then 114 else 45]) ++ [if r.testBit 4 then 119 else 45]) ++ [if r.testBit 3 then 120 else 45]) ++ [if r.testBit 2 then 114 else 45]) ?N ?A ?_
  case N => k_asm
  case A =>
    walk1
    k_steps
    all_goals (refine' sg_end ?F ?N ?h1 ?h2 ?hc; (case F => k_asm); (case N => k_asm); (case h1 => rfl); (case h2 => rfl); (case hc => first | exact if_pos (by assumption) | exact if_neg (by first | assumption | exact Bool.eq_false_iff.mp (by assumption))))
  intro h' tk' m' u' F' N'
  (try k_sweep)
  repeat' (first | (k_unfold; (try dsimp only)) | ((fail_if_success (with_reducible show wpAny _ _ (exec (Stmt.AugAssign _ _ _ _) _) _ _ _)); (fail_if_success (with_reducible show wpAny _ _ (exec (Stmt.For _ (Expr.Name _ _) _ _ _) _) _ _ _)); first | walk1 | (dsimp only; walk1)))
  refine' sg_join r tx (((((((([100] ++ [if r.testBit 8 then 114 else 45]) ++ [if r.testBit 7 then 119 else 45]) ++ [if r.testBit 6 then 120 else 45]) ++ [if r.testBit 5 then 114 else 45]) ++ [if r.testBit 4 then 119 else 45]) ++ [if r.testBit 3 then 120 else 45]) ++ [if r.testBit 2 then 114 else 45]) ++ [if r.testBit 1 then 119 else 45]) ?N ?A ?_
  case N => k_asm
  case A =>
    walk1
    k_steps
    all_goals (refine' sg_end ?F ?N ?h1 ?h2 ?hc; (case F => k_asm); (case N => k_asm); (case h1 => rfl); (case h2 => rfl); (case hc => first | exact if_pos (by assumption) | exact if_neg (by first | assumption | exact Bool.eq_false_iff.mp (by assumption))))
  intro h' tk' m' u' F' N'
  (try k_sweep)
  repeat' (first | (k_unfold; (try dsimp only)) | ((fail_if_success (with_reducible show wpAny _ _ (exec (Stmt.AugAssign _ _ _ _) _) _ _ _)); (fail_if_success (with_reducible show wpAny _ _ (exec (Stmt.For _ (Expr.Name _ _) _ _ _) _) _ _ _)); first | walk1 | (dsimp only; walk1)))
  refine' sg_join r tx ((((((((([100] ++ [if r.testBit 8 then 114 else 45]) ++ [if r.testBit 7 then 119 else 45]) ++ [if r.testBit 6 then 120 else 45]) ++ [if r.testBit 5 then 114 else 45]) ++ [if r.testBit 4 then 119 else 45]) ++ [if r.testBit 3 then 120 else 45]) ++ [if r.testBit 2 then 114 else 45]) ++ [if r.testBit 1 then 119 else 45]) ++ [if r.testBit 0 then 120 else 45]) ?N ?A ?_
  case N => k_asm
  case A =>
    walk1
    k_steps
    all_goals (refine' sg_end ?F ?N ?h1 ?h2 ?hc; (case F => k_asm); (case N => k_asm); (case h1 => rfl); (case h2 => rfl); (case hc => first | exact if_pos (by assumption) | exact if_neg (by first | assumption | exact Bool.eq_false_iff.mp (by assumption))))
  intro h' tk' m' u' F' N'
  (try k_sweep)
  repeat' (first | (k_unfold; (try dsimp only)) | ((fail_if_success (with_reducible show wpAny _ _ (exec (Stmt.AugAssign _ _ _ _) _) _ _ _)); (fail_if_success (with_reducible show wpAny _ _ (exec (Stmt.For _ (Expr.Name _ _) _ _ _) _) _ _ _)); first | walk1 | (dsimp only; walk1)))
  walk1
  repeat' (first | (k_unfold; (try dsimp only)) | ((fail_if_success (with_reducible show wpAny _ _ (pyIter (Value.str _ _)) _ _ _)); first | walk1 | (dsimp only; walk1)))
  dsimp only
  refine' due_iter ?hh ?F ?N ?hm ?hb ?hl ?hz ?T1 ?T2 ?T3 ?T4 ?fin
  case hh => with_unfolding_all rfl
  case F => k_asm
  case N => k_asm
  case hm => rfl
  case hb => first | assumption | exact ktn_ltOf (by tbn_find)
  case hl => exact lst_ch r
  case hz => exact Nat.le_of_ble_eq_true rfl
  case T1 =>
    intro I vs hv Qn o h tk m n u ho F1 N1 l1 nl ret'
    k_steps
    refine' ret' _ _ _ _ _ ?zF ?zm ?zN ⟨_, rfl⟩
    case zF => k_asm
    case zm => rfl
    case zN => first | exact push_conv (by k_asm) | exact push_conv (news_tl (by k_asm)) | k_asm | exact news_tl (by k_asm)
  case T2 =>
    intro I c hc Qn o h tk m n u ho F1 N1 l1 nl ret'
    k_steps
    refine' ret' _ _ _ _ _ ?zF ?zm ?zN ⟨_, rfl⟩
    case zF => k_asm
    case zm => rfl
    case zN => first | exact push_conv (by k_asm) | exact push_conv (news_tl (by k_asm)) | k_asm | exact news_tl (by k_asm)
  case T3 =>
    intro I c vs t0 hc hv Qn o h tk m n u ho F1 N1 l1 nl ret'
    k_steps
    refine' ret' _ _ _ _ _ ?zF ?zm ?zN ⟨_, rfl⟩
    case zF => k_asm
    case zm => rfl
    case zN => first | exact push_conv (by k_asm) | exact push_conv (news_tl (by k_asm)) | k_asm | exact news_tl (by k_asm)
  case T4 =>
    intro I c vs y t0 hc hv hy hl1 hl2 Qn o h tk m n u ho F1 N1 l1 nl ret'
    k_steps
    refine' ret' _ _ _ _ _ ?zF ?zm ?zN ⟨_, rfl⟩
    case zF => k_asm
    case zm => rfl
    case zN => first | exact push_conv (by k_asm) | exact push_conv (news_tl (by k_asm)) | k_asm | exact news_tl (by k_asm)
  case fin =>
    intro h' tk' m' n' vs' F' hm' N' hq
    replace F' := fr_b F' (ps := [(Str.ofString "tokens", Value.ref _)]) (by intro q hq; rw [List.mem_singleton.mp hq]; exact hm')
    (try k_sweep)
    (try k_unfold)
    (try dsimp only)
    k_steps
    refine' ret _ _ _ _ _ hq ?yF ?yN ?yl
    case yF => k_asm
    case yN => k_asm
    case yl => first | assumption | exact ktn_ltOf (by tbn_find)
end
theorem snt {w : World} {h : Heap} (X : (hd.heap_39 w.params).In h) (t : Tok) : Looks (model PG w) h (sharingNotTold t) false := Looks.of_peek X (by kernel_rfl)
section
variable {w : World} {A : Around} {E : Value → Shared → Prop} {s : Shared} {x y : Str} {t u : Tok} {Q : Value → Shared → Prop}
theorem is_ne (ht : 0 < t) (hu : 0 < u) (hne : t ≠ u) (hx : (x == y) = false) (h : Q (.bool false) s) : wpAny (model PG w) A (compareOp .Is (.str x t) (.str y u)) Q E s := by
  show wpAny _ _ (isSame (.str x t) (.str y u) >>= fun b => pure (Value.bool b)) _ _ _
  refine wpAny_bind ?_
  show wpAny _ _ (isSame.created (x == y) t u) _ _ _
  unfold isSame.created
  have e1 : (t == 0 || u == 0) = false := by
    rw [show (t == 0) = false from beq_eq_false_iff_ne.mpr (Nat.ne_of_gt ht), show (u == 0) = false from beq_eq_false_iff_ne.mpr (Nat.ne_of_gt hu)]; rfl
  have e2 : (t == u) = false := beq_eq_false_iff_ne.mpr hne
  simp only [e1, e2, hx, Bool.false_eq_true, if_false, Bool.not_false, if_true]
  exact wpAny_pure (wpAny_pure h)
theorem is_eq (X : (hd.heap_39 w.params).In s.heap) (ht : 0 < t) (hu : 0 < u) (hne : t ≠ u) (hx : (x == y) = true) (h : ∀ b, Q (.bool b) s) : wpAny (model PG w) A (compareOp .Is (.str x t) (.str y u)) Q E s := by
  show wpAny _ _ (isSame (.str x t) (.str y u) >>= fun b => pure (Value.bool b)) _ _ _
  refine wpAny_bind ?_
  show wpAny _ _ (isSame.created (x == y) t u) _ _ _
  unfold isSame.created
  have e1 : (t == 0 || u == 0) = false := by
    rw [show (t == 0) = false from beq_eq_false_iff_ne.mpr (Nat.ne_of_gt ht), show (u == 0) = false from beq_eq_false_iff_ne.mpr (Nat.ne_of_gt hu)]; rfl
  have e2 : (t == u) = false := beq_eq_false_iff_ne.mpr hne
  have l1 := snt X t
  have l2 := snt X u
  simp only [e1, e2, hx, Bool.false_eq_true, if_false, Bool.not_true]
  refine wpAny_bind (l1.here ?_)
  simp only [Bool.false_eq_true, if_false]
  refine wpAny_bind (l2.here ?_)
  simp only [Bool.false_eq_true, if_false]
  refine wpAny_bind (wpAny_rule ?_)
  refine wpAny_bind (wpAny_askSetting ?_)
  exact wpAny_pure (wpAny_pure (h _))
end
section
variable {prog : Program} {w : World} {A : Around} {E : Value → Shared → Prop} {s : Shared} {env : Env} {g : Heap} {x : Str} {px : Pos} {body : List Stmt} {Q : Flow → Shared → Prop}
def cntM (l : List (List Nat)) (i : Nat) : Nat := (l.take i).count [45]
abbrev CntTurn (prog : Program) (w : World) (A : Around) (E : Value → Shared → Prop) (s : Shared) (env : Env) (g : Heap) (x : Str) (px : Pos) (body : List Stmt) (ps : List (Str × Value)) (base : List (Addr × Obj)) (P : Str → Prop) (u : Nat) (d : Nat) : Prop :=
  ∀ (I : Nat) (o : Obj) (Qn : Flow → Shared → Prop) (y : Str) (t : Tok) (k : Nat) (tc : Tok) (h : Heap) (tk : Nat) (m : Str → Option Value), P y → TB t tk → t ≠ u → u < tk → k ≤ 200 → Fr g env.locals h (kstB (kstB m ps) [(Str.ofString "count", .int (k : Int) tc)]) → News g env.locals h ((I, o) :: base) →
    (∀ h' tk' m' tc', Fr g env.locals h' m' → (∀ q ∈ ps, m' q.1 = some q.2) → m' (Str.ofString "count") = some (.int ((k + d : Nat) : Int) tc') → News g env.locals h' ((I, o) :: base) → Qn .next { s with heap := h', toks := tk' }) →
    wpAny (model prog w) A (assign (.Name x px) env (.str y t)) (fun _ s₂ => wpAny (model prog w) A (execs body env) Qn E s₂) E { s with heap := h, toks := tk }
structure CntM (ps : List (Str × Value)) (k : Nat) (m : Str → Option Value) : Prop where
  own : ∀ q ∈ ps, m q.1 = some q.2
  cnt : ∃ tc, m (Str.ofString "count") = some (.int (k : Int) tc)
theorem nest_toks {α β : Type} {M : Model} {A : Around} {s : Shared} {a : Sem α} {b : α → Sem β} {Q : β → Shared → Prop} {E : Value → Shared → Prop} {n : Nat} (hn : n ≤ s.toks) (h : wpAny M A a (fun x s₂ => wpAny M A (b x) (fun y s₃ => n ≤ s₃.toks → Q y s₃) E s₂) E s) :
    wpAny M A a (fun x s₂ => wpAny M A (b x) Q E s₂) E s :=
  wpAny_mono (wpAny_toks_of hn h) (fun x s₂ z => wpAny_mono (wpAny_toks_of z.1 z.2) (fun y s₃ q => q.2 q.1) (fun _ _ q => q.2)) (fun _ _ q => q.2)
theorem fr_b2 {h : Heap} {L : Addr} {m₁ : Str → Option Value} {ps qs : List (Str × Value)} (F : Fr g L h m₁) (hp : ∀ p ∈ ps, m₁ p.1 = some p.2) (hq : ∀ p ∈ qs, m₁ p.1 = some p.2) : Fr g L h (kstB (kstB m₁ ps) qs) := by
  have e : kstB m₁ ps = m₁ := by
    funext z
    exact kstB_eq hp fun _ => rfl
  rw [e]; exact fr_b F hq
theorem cnt_core {I : Nat} {ts : List (List Nat)} {u : Nat} {ps : List (Str × Value)} {base : List (Addr × Obj)} (St : Nat → Heap → Prop) (hz : ts.length ≤ 100)
    (stO : ∀ i h, St i h → ∃ o, h.get? I = some o ∧ ∀ h', h'.get? I = some o → News g env.locals h' base → St i h')
    (item : ∀ i (s : Shared) (Q : Option Value → Shared → Prop) (E : Value → Shared → Prop) (hi : i < ts.length), St i s.heap → (u < s.toks) → (∀ t h' tk', TB t tk' → t ≠ u → s.toks ≤ tk' → St (i + 1) h' → Heap.SameBut I s.heap h' → Q (some (.str (toS ts[i]) t)) { s with heap := h', toks := tk' }) → wpAny (model prog w) A (pyNext (.ref I)) Q E s)
    (done : ∀ (s : Shared) (Q : Option Value → Shared → Prop) (E : Value → Shared → Prop), St ts.length s.heap → (∀ h', Heap.ExtBut I s.heap h' → Q none { s with heap := h' }) → wpAny (model prog w) A (pyNext (.ref I)) Q E s)
    (letGo : ∀ i (s : Shared) v (Q : Unit → Shared → Prop) (E : Value → Shared → Prop), St i s.heap → Q () s → wpAny (model prog w) A (letOwnedTupleGo (.Name x px) (.ref I) v) Q E s)
    (hLI : env.locals ≠ I) (hI0 : g.get? I = none) (hoff : ∀ p ∈ base, p.1 ≠ I)
    {m : Str → Option Value} (F : Fr g env.locals s.heap m) (N : News g env.locals s.heap base) (hst : St 0 s.heap) (hu : u < s.toks) (hm : CntM ps 0 m)
    (hE : PassesOwn (model prog w) A env E)
    (T1 : CntTurn prog w A E s env g x px body ps base (fun y => y = toS [45]) u 1)
    (T2 : CntTurn prog w A E s env g x px body ps base (fun y => ∃ z, z ≠ [45] ∧ y = toS z) u 0)
    (fin : ∀ h' tk' m' tc', Fr g env.locals h' (kstB (kstB m' ps) [(Str.ofString "count", .int (ts.count [45] : Nat) tc')]) → News g env.locals h' base → Q .next { s with heap := h', toks := tk' }) :
    codeAny (model prog w) A (.forLoop (.Name x px) (.ref I) body [] env) (fun r s' => match r with | .ok f => Q f s' | .error e => cameBackBy (model prog w) A env E e s') s := by
  refine codeAny_forLoop_any
    (fun k s' => ∃ h' tk m' i, s' = { s with heap := h', toks := tk } ∧ St i h' ∧ u < tk ∧ Fr g env.locals h' m' ∧ News g env.locals h' base ∧ CntM ps (cntM ts i) m' ∧ i ≤ ts.length ∧ k = ts.length - i) ?_ ts.length
    ⟨s.heap, s.toks, m, 0, rfl, hst, hu, F, N, hm, Nat.zero_le _, rfl⟩
  rintro k s' ⟨h', tk, m', i, rfl, hst', hu', F', N', hm', hi, rfl⟩
  have next : ∀ h₁ : Heap, Heap.ExtBut I h' h₁ → Fr g env.locals h₁ m' ∧ News g env.locals h₁ base := fun h₁ hk₁ =>
    ⟨⟨F'.ns.at' fun o e => hk₁ _ o hLI e, fun b o e => hk₁ b o (fun z => by rw [z, hI0] at e; cases e) (F'.keep b o e), F'.above⟩, fun p hp => ⟨hk₁ _ _ (hoff p hp) (N' p hp).1, (N' p hp).2⟩⟩
  by_cases hlt : i < ts.length
  · refine item i _ _ _ hlt hst' hu' fun t h₁ tk₁ ht hne hle hst₁ hs₁ => ?_
    refine letGo (i + 1) _ _ _ _ hst₁ ?_
    obtain ⟨F₁, N₁⟩ := next h₁ hs₁.extBut
    obtain ⟨o, ho, hkeep⟩ := stO _ _ hst₁
    have N₂ : News g env.locals h₁ ((I, o) :: base) := List.forall_mem_cons.mpr ⟨⟨ho, hLI.symm, hI0⟩, N₁⟩
    have hle' : tk ≤ tk₁ := hle
    obtain ⟨tc, htc⟩ := hm'.cnt
    have F₂ := fr_b2 (qs := [(Str.ofString "count", .int (cntM ts i : Int) tc)]) F₁ hm'.own (by intro q hq; rw [List.mem_singleton.mp hq]; exact htc)
    have hk : cntM ts i ≤ 200 := Nat.le_trans (Nat.le_trans List.count_le_length (by rw [List.length_take]; omega)) (show (100 : Nat) ≤ 200 by decide)
    have tke : ts.take (i + 1) = ts.take i ++ [ts[i]] := by rw [List.take_add_one, List.getElem?_eq_getElem hlt]; rfl
    have fin' : ∀ d, cntM ts (i + 1) = cntM ts i + d → ∀ h₂ tk₂ m₂ tc₂, tk₁ ≤ tk₂ → Fr g env.locals h₂ m₂ → (∀ q ∈ ps, m₂ q.1 = some q.2) → m₂ (Str.ofString "count") = some (.int ((cntM ts i + d : Nat) : Int) tc₂) → News g env.locals h₂ ((I, o) :: base) →
        ∃ k', k' < ts.length - i ∧ ∃ h' tk m' i, ({ s with heap := h₂, toks := tk₂ } : Shared) = { s with heap := h', toks := tk } ∧ St i h' ∧ u < tk ∧ Fr g env.locals h' m' ∧ News g env.locals h' base ∧ CntM ps (cntM ts i) m' ∧ i ≤ ts.length ∧ k' = ts.length - i := by
      intro d hd h₂ tk₂ m₂ tc₂ hle₂ F₃ hp₃ hc₃ N₃
      refine ⟨ts.length - (i + 1), by omega, h₂, tk₂, m₂, i + 1, rfl, hkeep _ (N₃ _ (.head _)).1 (news_tl N₃), by omega, F₃, news_tl N₃, ⟨hp₃, ⟨tc₂, by rw [hd]; exact hc₃⟩⟩, hlt, rfl⟩
    have turn : ∀ d, cntM ts (i + 1) = cntM ts i + d → (∀ Qn : Flow → Shared → Prop, (∀ h' tk' m' tc', Fr g env.locals h' m' → (∀ q ∈ ps, m' q.1 = some q.2) → m' (Str.ofString "count") = some (.int ((cntM ts i + d : Nat) : Int) tc') → News g env.locals h' ((I, o) :: base) → Qn .next { s with heap := h', toks := tk' }) →
        wpAny (model prog w) A (assign (.Name x px) env (.str (toS ts[i]) t)) (fun _ s₂ => wpAny (model prog w) A (execs body env) Qn E s₂) E { s with heap := h₁, toks := tk₁ }) → wpAny (model prog w) A (assign (.Name x px) env (.str (toS ts[i]) t)) (fun _ s₂ => wpAny (model prog w) A (execs body env) (fun f s₃ => match f with
            | .next | .cont => ∃ m, m < ts.length - i ∧ ∃ h' tk m' i, s₃ = { s with heap := h', toks := tk } ∧ St i h' ∧ u < tk ∧ Fr g env.locals h' m' ∧ News g env.locals h' base ∧ CntM ps (cntM ts i) m' ∧ i ≤ ts.length ∧ m = ts.length - i
            | .brk => Q .next s₃
            | .ret v => Q (.ret v) s₃) E s₂) E { s with heap := h₁, toks := tk₁ } := fun d hd T => by
      refine nest_toks (n := tk₁) (b := fun _ => execs body env) (Nat.le_refl _) (T _ ?_)
      intro h₂ tk₂ m₂ tc₂ F₃ hp₃ hc₃ N₃ hle₂
      exact fin' d hd h₂ tk₂ m₂ tc₂ hle₂ F₃ hp₃ hc₃ N₃
    by_cases h45 : ts[i] = [45]
    · refine wpAny_mono (turn 1 (by unfold cntM; rw [tke, List.count_append, h45]; rfl) ?_) (fun _ s₂ z => wpAny_mono z (fun f s₃ y => y) hE) hE
      exact fun Qn k => T1 I o Qn (toS ts[i]) t (cntM ts i) tc h₁ tk₁ m' (by rw [h45]) ht hne (by omega) hk F₂ N₂ k
    · refine wpAny_mono (turn 0 (by unfold cntM; rw [tke, List.count_append, List.count_cons_of_ne (by simpa using h45)]; rfl) ?_) (fun _ s₂ z => wpAny_mono z (fun f s₃ y => y) hE) hE
      exact fun Qn k => T2 I o Qn (toS ts[i]) t (cntM ts i) tc h₁ tk₁ m' ⟨_, h45, rfl⟩ ht hne (by omega) hk F₂ N₂ k
  · have hie : i = ts.length := by omega
    subst hie
    refine done _ _ _ hst' fun h₁ hk₁ => ?_
    obtain ⟨F₁, N₁⟩ := next h₁ hk₁
    obtain ⟨tc, htc⟩ := hm'.cnt
    have e : cntM ts ts.length = ts.count [45] := by unfold cntM; rw [List.take_length]
    rw [e] at htc
    exact wpAny_execs_nil (fin h₁ tk m' tc (fr_b2 (qs := [(Str.ofString "count", .int (ts.count [45] : Nat) tc)]) F₁ hm'.own (by intro q hq; rw [List.mem_singleton.mp hq]; exact htc)) N₁)
theorem cnt_list {l : Nat} {vs : List Value} {ts : List (List Nat)} {c u : Nat} {ps : List (Str × Value)} {base : List (Addr × Obj)} (hq : StrsP u vs ts) (hz : ts.length ≤ 100) (hb : (l, W.listOf vs.toArray c) ∈ base)
    (hh : A.handled = none) {m : Str → Option Value} (F : Fr g env.locals s.heap m) (N : News g env.locals s.heap base) (hu : u < s.toks) (hm : CntM ps 0 m)
    (hE : PassesOwn (model prog w) A env E)
    (T1 : CntTurn prog w A E s env g x px body ps base (fun y => y = toS [45]) u 1)
    (T2 : CntTurn prog w A E s env g x px body ps base (fun y => ∃ z, z ≠ [45] ∧ y = toS z) u 0)
    (fin : ∀ h' tk' m' tc', Fr g env.locals h' (kstB (kstB m' ps) [(Str.ofString "count", .int (ts.count [45] : Nat) tc')]) → News g env.locals h' base → Q .next { s with heap := h', toks := tk' }) :
    wpAny (model prog w) A (pyIter (.ref l)) (fun it s₂ => codeAny (model prog w) A (.forLoop (.Name x px) it body [] env) (fun r s' => match r with | .ok f => Q f s' | .error e => cameBackBy (model prog w) A env E e s') s₂) E s := by
  have hl : s.heap.IsList l vs.toArray := ⟨_, (N _ hb).1, rfl, _, rfl⟩
  have hI0 : g.get? s.heap.objs.size = none := ktu_new F (Nat.le_refl _)
  have hLI : env.locals ≠ s.heap.objs.size := Nat.ne_of_lt F.ns.lt
  have hlI : l ≠ s.heap.objs.size := Nat.ne_of_lt (Heap.lt_size (N _ hb).1)
  refine wpAny_pyIter_list hl ?_
  obtain ⟨ls, rfl, rfl, hls⟩ := hq
  refine cnt_core (s := { s with heap := s.heap.push { cls := .type "list_iterator", data := .fields #[.ref l, .int 0 0] } }) (u := u) (fun i h => h.IsListIter s.heap.objs.size l i ∧ h.IsList l (ls.map tokV).toArray) hz ?_ ?_ ?_ ?_ hLI hI0 (fun p hp => Nat.ne_of_lt (Heap.lt_size (N p hp).1)) (F.push _) (N.pushKeep _) ⟨⟨_, Heap.get?_push_size _ rfl, rfl, rfl⟩, hl.push _⟩ hu hm hE T1 T2 fin
  · rintro i h ⟨⟨o, ho, hc, hd⟩, -⟩
    exact ⟨o, ho, fun h' ho' N' => ⟨⟨o, ho', hc, hd⟩, ⟨_, (N' _ hb).1, rfl, _, rfl⟩⟩⟩
  · rintro i s' Q' E' hi ⟨hit, hl'⟩ hu' hQ
    have hi' : i < ls.length := by simpa using hi
    refine wpAny_pyNext_list_item hit hl' (x := tokV ls[i]) (by simp [hi']) fun h' hit' hs' => ?_
    have hb' := hls ls[i] (List.getElem_mem hi')
    have e : (ls.map (·.1))[i] = ls[i].1 := by simp
    have := hQ (ls[i].2) h' s'.toks (hb'.up (Nat.le_of_lt hu')) (Nat.ne_of_lt hb'.2) (Nat.le_refl _) ⟨hit', hl'.extBut hs'.extBut hlI⟩ hs'
    rw [e] at this
    exact this
  · rintro s' Q' E' ⟨hit, hl'⟩ hQ
    exact wpAny_pyNext_list_end hh hit hl' (by simp) hQ
  · rintro i s' v Q' E' ⟨hit, -⟩ h
    exact letGo_listiter hit h
theorem cnt_str {l : List Nat} {t u : Nat} {ps : List (Str × Value)} {base : List (Addr × Obj)} (hz : l.length ≤ 100) (hl : ∀ c ∈ l, c = 45 ∨ Lett c)
    (hh : A.handled = none) {m : Str → Option Value} (F : Fr g env.locals s.heap m) (N : News g env.locals s.heap base) (hu : u < s.toks) (hm : CntM ps 0 m)
    (hE : PassesOwn (model prog w) A env E)
    (T1 : CntTurn prog w A E s env g x px body ps base (fun y => y = toS [45]) u 1)
    (T2 : CntTurn prog w A E s env g x px body ps base (fun y => ∃ z, z ≠ [45] ∧ y = toS z) u 0)
    (fin : ∀ h' tk' m' tc', Fr g env.locals h' (kstB (kstB m' ps) [(Str.ofString "count", .int (l.count 45 : Nat) tc')]) → News g env.locals h' base → Q .next { s with heap := h', toks := tk' }) :
    wpAny (model prog w) A (pyIter (.str (toS l) t)) (fun it s₂ => codeAny (model prog w) A (.forLoop (.Name x px) it body [] env) (fun r s' => match r with | .ok f => Q f s' | .error e => cameBackBy (model prog w) A env E e s') s₂) E s := by
  have ha : (toS l).cps.all (· < 128) = true := by
    show l.toArray.all (· < 128) = true
    simp only [List.all_toArray, List.all_eq_true, decide_eq_true_eq]
    intro c hc
    rcases hl c hc with rfl | rfl | rfl | rfl | rfl <;> decide
  have hI0 : g.get? s.heap.objs.size = none := ktu_new F (Nat.le_refl _)
  have hLI : env.locals ≠ s.heap.objs.size := Nat.ne_of_lt F.ns.lt
  have hcnt : ∀ l : List Nat, (l.map fun c => [c]).count [45] = l.count 45 := by
    intro l
    induction l with
    | nil => rfl
    | cons a r ih => simp only [List.map_cons, List.count_cons, ih]; congr 1; by_cases h : a = 45 <;> simp [h]
  refine wpAny_pyIter_ascii ha ?_
  rw [← hcnt l] at fin
  refine cnt_core (s := { s with heap := s.heap.push _ }) (u := u) (ts := l.map fun c => [c]) (fun i h => h.IsStrIter s.heap.objs.size "str_ascii_iterator" (toS l) t i) (by simpa using hz) ?_ ?_ ?_ ?_ hLI hI0 (fun p hp => Nat.ne_of_lt (Heap.lt_size (N p hp).1)) (F.push _) (N.pushKeep _) ⟨_, Heap.get?_push_size _ rfl, rfl, rfl⟩ hu hm hE T1 T2 fin
  · rintro i h ⟨o, ho, hc, hd⟩
    exact ⟨o, ho, fun h' ho' N' => ⟨o, ho', hc, hd⟩⟩
  · rintro i s' Q' E' hi hit hu' hQ
    have hi' : i < l.length := by simpa using hi
    refine wpAny_pyNext_ascii_item hit (c := l[i]) (by show l.toArray[i]? = _; simp [hi']) fun h' hit' hs' => ?_
    have e : (l.map fun c => [c])[i] = [l[i]] := by simp
    have := hQ s'.toks h' (s'.toks + 1) ⟨by omega, Nat.lt_succ_self _⟩ (by omega) (Nat.le_succ _) hit' hs'
    rw [e] at this
    exact this
  · rintro s' Q' E' hit hQ
    exact wpAny_pyNext_ascii_end hh hit (by show l.toArray[_]? = _; simp) hQ
  · rintro i s' v Q' E' hit h
    exact letGo_striter hit h
end
theorem toS_ne_m {y : List Nat} (hy : y ≠ [45]) : ((toS y) == Str.ofString "-") = false := by
  rw [ofs_m]
  refine beq_eq_false_iff_ne.mpr fun e => hy ?_
  injection e with e
  have := congrArg Array.toList e
  simpa using this
theorem toS_eq_m : ((toS [45]) == Str.ofString "-") = true := by decide +kernel
local macro_rules | `(tactic| walk_at "compareOp Is str str") => `(tactic| (k_here; k_dflt (first
  | (refine' is_ne ?a ?b ?c (toS_ne_m (by with_reducible assumption)) ?_; (case a => exact (TB.out (by assumption)).1); (case b => omega); (case c => assumption))
  | (refine' is_eq ?X ?a ?b ?c toS_eq_m ?_; (case X => k_in); (case a => exact (TB.out (by assumption)).1); (case b => omega); (case c => assumption); intro b'))))
section
variable {w : World} {loose : List Str} {mean : ExcName → Option Value} {mg mb : Str → Option Value} {news : List (Addr × Obj)} {un : Nat} {dp : Nat} {gd : Option (List Code)} {cn : Str} {nm : List (Str × NameKind)} {ig ic : Bool} {mo : List (Str × Const)} {a : Addr} {ccd : Value} {cl : List (Str × Addr)} {outer : List Env} {A₀ : Around} {base h₀ : Heap} {L : Addr} {m : Str → Option Value} {s : Shared} {Q E : Value → Shared → Prop}
theorem c_countL {S : Nat} {vs : List Value} {ts : List (List Nat)} {c u : Nat} (B : Below A₀ base outer h₀) (F : Fr h₀ L s.heap m) (X : (hd.heap_39 w.params).In h₀) (N : News h₀ L s.heap news) (hS : (S, W.listOf vs.toArray c) ∈ news) (T : Top hd.view_39 loose mean mg mb h₀) (hq : StrsP u vs ts) (hz : ts.length ≤ 100) (hu : u < s.toks) (hu0 : 0 < u) (hdp : dp + 20 < recursionLimit) (hun : un + 90 < cLine)
    (ret : ∀ t h' tk', Fr h₀ L h' m → News h₀ L h' news → Q (.int (ts.count [45] : Nat) t) { s with heap := h', toks := tk' }) :
    wpAny (model PG w) (ktrTop dp un gd cn ⟨.function, nm, ig, ic, mo⟩ L a ccd cl outer) (call (.ref 81) [.ref S, .str (Str.ofString "-") u]) Q E s := by
  repeat' (first | (k_unfold; (try dsimp only)) | ((fail_if_success (with_reducible show wpAny _ _ (exec (Stmt.For _ (Expr.Name _ _) _ _ _) _) _ _ _)); first | walk1 | (dsimp only; walk1)))
  refine' PySem.wpAny_For ?_ ?zs
  case zs => intro _; with_unfolding_all rfl
  repeat' (first | (k_unfold; (try dsimp only)) | ((fail_if_success (with_reducible show wpAny _ _ (pyIter _) _ _ _)); first | walk1 | (dsimp only; walk1)))
  refine' cnt_list (u := u) (ps := [(Str.ofString "b", .str (Str.ofString "-") u)]) hq hz hS ?zh ?zF ?zN ?zu ?zm ?zE ?zT1 ?zT2 ?zfin
  case zF => k_asm
  case zN => k_asm
  case zh => with_unfolding_all rfl
  case zE => passes_own
  case zu => (try dsimp only); walk_at "tb"
  case zm => exact ⟨by intro q hq; rw [List.mem_singleton.mp hq]; rfl, _, rfl⟩
  case zT1 =>
    rintro I o Qn y t k tc h tk m rfl htb hne hlt hk F1 N1 ret'
    k_steps
    all_goals (refine' ret' _ _ _ _ ?yF ?yp ?yc ?yN; (case yF => k_asm); (case yN => k_asm); (case yp => (intro q hq; rw [List.mem_singleton.mp hq]; rfl)); (case yc => rfl))
  case zT2 =>
    rintro I o Qn y t k tc h tk m ⟨z, hz, rfl⟩ htb hne hlt hk F1 N1 ret'
    k_steps
    all_goals (refine' ret' _ _ _ _ ?yF ?yp ?yc ?yN; (case yF => k_asm); (case yN => k_asm); (case yp => (intro q hq; rw [List.mem_singleton.mp hq]; rfl)); (case yc => rfl))
  case zfin =>
    intro h' tk' m' tc' F1 N1
    (try k_unfold)
    (try dsimp only)
    k_steps
    exact ret _ _ _ (by k_asm) (by k_asm)
theorem c_countS {l : List Nat} {t u : Nat} (B : Below A₀ base outer h₀) (F : Fr h₀ L s.heap m) (X : (hd.heap_39 w.params).In h₀) (N : News h₀ L s.heap news) (T : Top hd.view_39 loose mean mg mb h₀) (hz : l.length ≤ 100) (hl : ∀ c ∈ l, c = 45 ∨ Lett c) (hu : u < s.toks) (hu0 : 0 < u) (hdp : dp + 20 < recursionLimit) (hun : un + 90 < cLine)
    (ret : ∀ t h' tk', Fr h₀ L h' m → News h₀ L h' news → Q (.int (l.count 45 : Nat) t) { s with heap := h', toks := tk' }) :
    wpAny (model PG w) (ktrTop dp un gd cn ⟨.function, nm, ig, ic, mo⟩ L a ccd cl outer) (call (.ref 81) [.str (toS l) t, .str (Str.ofString "-") u]) Q E s := by
  repeat' (first | (k_unfold; (try dsimp only)) | ((fail_if_success (with_reducible show wpAny _ _ (exec (Stmt.For _ (Expr.Name _ _) _ _ _) _) _ _ _)); first | walk1 | (dsimp only; walk1)))
  refine' PySem.wpAny_For ?_ ?zs
  case zs => intro _; with_unfolding_all rfl
  repeat' (first | (k_unfold; (try dsimp only)) | ((fail_if_success (with_reducible show wpAny _ _ (pyIter _) _ _ _)); first | walk1 | (dsimp only; walk1)))
  refine' cnt_str (u := u) (ps := [(Str.ofString "b", .str (Str.ofString "-") u)]) hz hl ?zh ?zF ?zN ?zu ?zm ?zE ?zT1 ?zT2 ?zfin
  case zF => k_asm
  case zN => k_asm
  case zh => with_unfolding_all rfl
  case zE => passes_own
  case zu => (try dsimp only); walk_at "tb"
  case zm => exact ⟨by intro q hq; rw [List.mem_singleton.mp hq]; rfl, _, rfl⟩
  case zT1 =>
    rintro I o Qn y t k tc h tk m rfl htb hne hlt hk F1 N1 ret'
    k_steps
    all_goals (refine' ret' _ _ _ _ ?yF ?yp ?yc ?yN; (case yF => k_asm); (case yN => k_asm); (case yp => (intro q hq; rw [List.mem_singleton.mp hq]; rfl)); (case yc => rfl))
  case zT2 =>
    rintro I o Qn y t k tc h tk m ⟨z, hz, rfl⟩ htb hne hlt hk F1 N1 ret'
    k_steps
    all_goals (refine' ret' _ _ _ _ ?yF ?yp ?yc ?yN; (case yF => k_asm); (case yN => k_asm); (case yp => (intro q hq; rw [List.mem_singleton.mp hq]; rfl)); (case yc => rfl))
  case zfin =>
    intro h' tk' m' tc' F1 N1
    (try k_unfold)
    (try dsimp only)
    k_steps
    exact ret _ _ _ (by k_asm) (by k_asm)
end
section
variable {prog : Program} {w : World} {A : Around} {E : Value → Shared → Prop} {s : Shared} {env : Env} {g : Heap} {target : Expr} {body : List Stmt} {Q : Flow → Shared → Prop}
theorem for_listJ {l : Nat} {vs : List Value} {c : Nat} {nx : List (Addr × Obj)} (J : Nat → (Str → Option Value) → List (Addr × Obj) → Prop) (hJ : ∀ i m nx, J i m nx → (l, W.listOf vs.toArray c) ∈ nx)
    (hh : A.handled = none) {m : Str → Option Value} (F : Fr g env.locals s.heap m) (N : News g env.locals s.heap nx) (h0 : J 0 m nx)
    (hE : PassesOwn (model prog w) A env E)
    (turn : ∀ i v I o h tk m nx, vs[i]? = some v → J i m nx → (o : Obj).cls = .type "list_iterator" → Fr g env.locals h m → News g env.locals h ((I, o) :: nx) → (∀ p ∈ nx, p.1 ≠ I) → ∀ Qn : Flow → Shared → Prop,
      (∀ h' tk' m' nx', Fr g env.locals h' m' → J (i + 1) m' nx' → News g env.locals h' ((I, o) :: nx') → (∀ p ∈ nx', p.1 ≠ I) → Qn .next { s with heap := h', toks := tk' }) →
      wpAny (model prog w) A (assign target env v) (fun _ s₂ => wpAny (model prog w) A (execs body env) Qn E s₂) E { s with heap := h, toks := tk })
    (fin : ∀ h tk m nx, J vs.length m nx → Fr g env.locals h m → News g env.locals h nx → Q .next { s with heap := h, toks := tk }) :
    wpAny (model prog w) A (pyIter (.ref l)) (fun it s₂ => codeAny (model prog w) A (.forLoop target it body [] env) (fun r s' => match r with | .ok f => Q f s' | .error e => cameBackBy (model prog w) A env E e s') s₂) E s := by
  have hb := hJ _ _ _ h0
  have hl : s.heap.IsList l vs.toArray := ⟨_, (N _ hb).1, rfl, _, rfl⟩
  have hI0 : g.get? s.heap.objs.size = none := ktu_new F (Nat.le_refl _)
  have hLI : env.locals ≠ s.heap.objs.size := Nat.ne_of_lt F.ns.lt
  have hlI : l ≠ s.heap.objs.size := Nat.ne_of_lt (Heap.lt_size (N _ hb).1)
  refine wpAny_pyIter_list hl ?_
  generalize hI : s.heap.objs.size = I at *
  refine codeAny_forLoop_any
    (fun k s' => ∃ h' tk m' nx' i, s' = { s with heap := h', toks := tk } ∧ h'.IsListIter I l i ∧ J i m' nx' ∧ Fr g env.locals h' m' ∧ News g env.locals h' nx' ∧ (∀ p ∈ nx', p.1 ≠ I) ∧ i ≤ vs.length ∧ k = vs.length - i) ?_ vs.length
    ⟨_, s.toks, m, nx, 0, rfl, ⟨_, by rw [← hI]; exact Heap.get?_push_size _ rfl, rfl, rfl⟩, h0, F.push _, N.pushKeep _, fun p hp => by rw [← hI]; exact Nat.ne_of_lt (Heap.lt_size (N p hp).1), Nat.zero_le _, rfl⟩
  rintro k s' ⟨h', tk, m', nx', i, rfl, hit, hJ', F', N', hoff, hi, rfl⟩
  have hl' : h'.IsList l vs.toArray := ⟨_, (N' _ (hJ _ _ _ hJ')).1, rfl, _, rfl⟩
  have next : ∀ h₁ : Heap, Heap.ExtBut I h' h₁ → Fr g env.locals h₁ m' ∧ News g env.locals h₁ nx' := fun h₁ hk₁ =>
    ⟨⟨F'.ns.at' fun o e => hk₁ _ o hLI e, fun b o e => hk₁ b o (fun z => by rw [z, hI0] at e; cases e) (F'.keep b o e), F'.above⟩, fun p hp => ⟨hk₁ _ _ (hoff p hp) (N' p hp).1, (N' p hp).2⟩⟩
  by_cases hlt : i < vs.length
  · refine wpAny_pyNext_list_item hit hl' (x := vs[i]) (by simp [hlt]) fun h₁ hit₁ hs₁ => ?_
    refine letGo_listiter hit₁ ?_
    obtain ⟨F₁, N₁⟩ := next h₁ hs₁.extBut
    obtain ⟨o, ho, hc, hd⟩ := id hit₁
    have N₂ : News g env.locals h₁ ((I, o) :: nx') := List.forall_mem_cons.mpr ⟨⟨ho, hLI.symm, hI0⟩, N₁⟩
    refine wpAny_mono (turn i vs[i] I o h₁ tk m' nx' (List.getElem?_eq_getElem hlt) hJ' hc F₁ N₂ hoff (fun f s₃ => match f with
            | .next | .cont => ∃ k', k' < vs.length - i ∧ ∃ h' tk m' nx' i, s₃ = { s with heap := h', toks := tk } ∧ h'.IsListIter I l i ∧ J i m' nx' ∧ Fr g env.locals h' m' ∧ News g env.locals h' nx' ∧ (∀ p ∈ nx', p.1 ≠ I) ∧ i ≤ vs.length ∧ k' = vs.length - i
            | .brk => Q .next s₃
            | .ret v => Q (.ret v) s₃) fun h₂ tk₂ m₂ nx₂ F₂ J₂ N₃ hoff₂ => ?_) (fun _ s₂ z => wpAny_mono z (fun f s₃ y => y) hE) hE
    exact ⟨vs.length - (i + 1), by omega, h₂, tk₂, m₂, nx₂, i + 1, rfl, ⟨o, (N₃ _ (.head _)).1, hc, hd⟩, J₂, F₂, news_tl N₃, hoff₂, hlt, rfl⟩
  · have hie : i = vs.length := by omega
    subst hie
    refine wpAny_pyNext_list_end hh hit hl' (by simp) fun h₁ hk₁ => ?_
    obtain ⟨F₁, N₁⟩ := next h₁ hk₁
    exact wpAny_execs_nil (fin h₁ tk m' nx' hJ' F₁ N₁)
theorem restJ {ty : String} {I : Addr} {xs : List Itm} (J : Nat → (Str → Option Value) → List (Addr × Obj) → Prop)
    (turn : ∀ i a m nx v h tk o, xs[i]? = some a → J i m nx → (∀ p ∈ nx, p.1 ≠ I) → a.Is v h → (o : Obj).cls = .type ty → Fr g env.locals h m → News g env.locals h ((I, o) :: nx) → ∀ Qn : Flow → Shared → Prop,
      (∀ h' tk' m' nx', Fr g env.locals h' m' → J (i + 1) m' nx' → News g env.locals h' ((I, o) :: nx') → (∀ p ∈ nx', p.1 ≠ I) → Qn .next { s with heap := h', toks := tk' }) →
      wpAny (model prog w) A (assign target env v) (fun _ s₂ => wpAny (model prog w) A (execs body env) Qn E s₂) E { s with heap := h, toks := tk })
    (fin : ∀ m nx h tk, J xs.length m nx → (∀ p ∈ nx, p.1 ≠ I) → Fr g env.locals h m → News g env.locals h nx → Q .next { s with heap := h, toks := tk })
    {m : Str → Option Value} {news : List (Addr × Obj)} (h0 : J 0 m news) (off0 : ∀ p ∈ news, p.1 ≠ I) : ItemsRest prog w A E g env target body Q s [(I, ty)] [] xs m news := by
  refine rest_of_J (fun i m nx => J i m nx ∧ ∀ p ∈ nx, p.1 ≠ I) ?_ ?_ ⟨h0, off0⟩
  · rintro i a m₁ nx v h tk hia ⟨hJ, hoff⟩ hv F₁ o ho N₁
    refine turn i a m₁ nx v h tk o hia hJ hoff hv ho F₁ N₁ _ fun h' tk' m' nx' F' J' N' off' => ?_
    refine ⟨h', tk', m', nx', rfl, F', N', ?_, trivial, J', off'⟩
    intro p hp q hq
    rw [List.mem_singleton.mp hq]
    exact off' p hp
  · rintro m₁ nx h tk ⟨hJ, hoff⟩ F₁ N₁
    exact fin m₁ nx h tk hJ hoff F₁ N₁
end
abbrev tupO (a : Int) (ta : Tok) (b : Int) (tb : Tok) : Obj := { cls := .type "tuple", data := .seq #[.int a ta, .int b tb] }
def RowsIn (news : List (Addr × Obj)) (vs : List Value) (rows : List (Int × Int)) : Prop :=
  vs.length = rows.length ∧ ∀ (i : Nat) (v : Value) (r : Int × Int), vs[i]? = some v → rows[i]? = some r → ∃ (p : Nat) (t u : Tok), v = .ref p ∧ (p, tupO r.1 t r.2 u) ∈ news
theorem RowsIn.mono {n n' : List (Addr × Obj)} {vs : List Value} {rows : List (Int × Int)} (h : RowsIn n vs rows) (k : ∀ p ∈ n, p ∈ n') : RowsIn n' vs rows :=
  ⟨h.1, fun i v r a b => let ⟨p, t, u, e, m⟩ := h.2 i v r a b; ⟨p, t, u, e, k _ m⟩⟩
theorem RowsIn.snoc {n : List (Addr × Obj)} {vs : List Value} {rows : List (Int × Int)} {p : Nat} {a b : Int} {t u : Tok} (h : RowsIn n vs rows) : RowsIn ((p, tupO a t b u) :: n) (vs ++ [Value.ref p]) (rows ++ [(a, b)]) := by
  refine ⟨by simp [h.1], fun i v r hv hr => ?_⟩
  rcases Nat.lt_trichotomy i vs.length with hi | hi | hi
  · rw [List.getElem?_append_left hi] at hv
    rw [List.getElem?_append_left (by rw [← h.1]; exact hi)] at hr
    obtain ⟨q, t, u, e, m⟩ := h.2 i v r hv hr
    exact ⟨q, t, u, e, .tail _ m⟩
  · subst hi
    rw [List.getElem?_append_right (Nat.le_refl _)] at hv
    rw [h.1, List.getElem?_append_right (Nat.le_refl _)] at hr
    simp at hv hr
    subst hv hr
    exact ⟨p, t, u, rfl, .head _⟩
  · rw [List.getElem?_append_right (Nat.le_of_lt hi)] at hv
    have : i - vs.length ≠ 0 := by omega
    rw [List.getElem?_eq_none (by simp; omega)] at hv
    cases hv
def wsum (wt : Int) (rows : List (Int × Int)) : Int := (rows.map fun (r : Int × Int) => wt ^ (r.1 - 1).toNat * r.2).sum
theorem wsum_take (wt : Int) (rows : List (Int × Int)) {i : Nat} {r : Int × Int} (h : rows[i]? = some r) : wsum wt (rows.take (i + 1)) = wsum wt (rows.take i) + wt ^ (r.1 - 1).toNat * r.2 := by
  unfold wsum
  rw [List.take_add_one, h]
  simp
section
variable {prog : Program} {w : World} {A : Around} {E : Value → Shared → Prop} {s : Shared} {a n : Int} {t u : Tok} {Q : Value → Shared → Prop}
theorem bits_mul_small {b k : Nat} (hb : b ≤ 2 ^ 24) (hk : k ≤ 2) : b * k ≤ 2 ^ 27 := by
  have := Nat.mul_le_mul hb hk
  omega
theorem pow_w (h0 : 0 ≤ n) (h2 : n ≤ 2) (hb : Builtin.Int.intBits a ≤ 2 ^ 24) (h : Q (.int (a ^ n.toNat) s.toks) { s with toks := s.toks + 1 }) : wpAny (model prog w) A (binaryOp .Pow (.int a t) (.int n u)) Q E s := by
  refine pow_int h0 ?_ h
  have := bits_mul_small (k := n.toNat) hb (by omega)
  have e : (n.toNat : Int) = n := Int.toNat_of_nonneg h0
  rw [← e]
  exact_mod_cast this
theorem ipow_w (h0 : 0 ≤ n) (h2 : n ≤ 2) (hb : Builtin.Int.intBits a ≤ 2 ^ 24) (h : Q (.int (a ^ n.toNat) s.toks) { s with toks := s.toks + 1 }) : wpAny (model prog w) A (inplaceOp .Pow (.int a t) (.int n u)) Q E s := by
  refine ipow_int h0 ?_ h
  have := bits_mul_small (k := n.toNat) hb (by omega)
  have e : (n.toNat : Int) = n := Int.toNat_of_nonneg h0
  rw [← e]
  exact_mod_cast this
theorem mul_w {b : Int} (hb : Builtin.Int.intBits b ≤ 64) (h : Q (.int (a * b) s.toks) { s with toks := s.toks + 1 }) : wpAny (model prog w) A (binaryOp .Mult (.int a t) (.int b u)) Q E s := PyProof.Rows.mul_int h (.of_right hb)
end
local macro_rules | `(tactic| walk_at "inplaceOp Pow int int") => `(tactic| (k_here; k_dflt (refine' ipow_w ?a ?b (by with_reducible assumption) ?_; (case a => omega); (case b => omega))))
local macro_rules | `(tactic| walk_at "binaryOp Mult int int") => `(tactic| (k_here; k_dflt (refine' mul_w (by with_reducible assumption) ?_)))
section
variable {w : World} {loose : List Str} {mean : ExcName → Option Value} {mg mb : Str → Option Value} {news : List (Addr × Obj)} {un : Nat} {dp : Nat} {gd : Option (List Code)} {cn : Str} {nm : List (Str × NameKind)} {ig ic : Bool} {mo : List (Str × Const)} {a : Addr} {ccd : Value} {cl : List (Str × Addr)} {outer : List Env} {A₀ : Around} {base h₀ : Heap} {L : Addr} {m : Str → Option Value} {s : Shared} {Q E : Value → Shared → Prop}
theorem c_weighed {S : Nat} {vs : List Value} {rows : List (Int × Int)} {c : Nat} {wt : Int} {tw : Tok} (B : Below A₀ base outer h₀) (F : Fr h₀ L s.heap m) (X : (hd.heap_39 w.params).In h₀) (N : News h₀ L s.heap news) (hS : (S, W.listOf vs.toArray c) ∈ news) (hR : RowsIn news vs rows) (T : Top hd.view_39 loose mean mg mb h₀) (hrow : ∀ r ∈ rows, 1 ≤ r.1 ∧ r.1 ≤ 3 ∧ Builtin.Int.intBits r.2 ≤ 64) (hb : Builtin.Int.intBits wt ≤ 2 ^ 24) (hdp : dp + 20 < recursionLimit) (hun : un + 90 < cLine)
    (ret : ∀ t h' tk', Fr h₀ L h' m → News h₀ L h' news → Q (.int (wsum wt rows) t) { s with heap := h', toks := tk' }) :
    wpAny (model PG w) (ktrTop dp un gd cn ⟨.function, nm, ig, ic, mo⟩ L a ccd cl outer) (call (.ref 848) [.ref S, .int wt tw]) Q E s := by
  repeat' (first | (k_unfold; (try dsimp only)) | ((fail_if_success (with_reducible show wpAny _ _ (exec (Stmt.For _ (Expr.Name _ _) _ _ _) _) _ _ _)); first | walk1 | (dsimp only; walk1)))
  refine' PySem.wpAny_For ?_ ?zs
  case zs => intro _; with_unfolding_all rfl
  repeat' (first | (k_unfold; (try dsimp only)) | ((fail_if_success (with_reducible show wpAny _ _ (pyIter _) _ _ _)); first | walk1 | (dsimp only; walk1)))
  refine' for_listJ (nx := ?zn) (fun i m nx => nx = ?zn ∧ m (Str.ofString "weight") = some (.int wt tw) ∧ ∃ tt, m (Str.ofString "told") = some (.int (wsum wt (rows.take i)) tt)) ?zJ ?zh ?zF ?zN ?z0 ?zE ?zturn ?zfin
  case zN => k_asm
  case zF => k_asm
  case zh => with_unfolding_all rfl
  case zE => passes_own
  case zJ => exact fun i m nx h => h.1 ▸ hS
  case z0 => exact ⟨rfl, rfl, _, rfl⟩
  case zfin =>
    rintro h tk m nx ⟨rfl, hw, tt, ht⟩ F1 N1
    rw [hR.1, List.take_length] at ht
    replace F1 := fr_b F1 (ps := [(Str.ofString "told", .int (wsum wt rows) tt)]) (by intro q hq; rw [List.mem_singleton.mp hq]; exact ht)
    (try k_unfold)
    (try dsimp only)
    k_steps
    exact ret _ _ _ (by k_asm) (by k_asm)
  case zturn =>
    rintro i v I o h tk m nx hv ⟨rfl, hw, tt, ht⟩ ho F1 N1 hoff Qn ret'
    have hi : i < rows.length := by rw [← hR.1]; exact (List.getElem?_eq_some_iff.mp hv).1
    have hr := List.getElem?_eq_getElem hi
    generalize rows[i] = r at hr
    obtain ⟨p, t, u, rfl, hp⟩ := hR.2 i v r hv hr
    obtain ⟨r1, r2, r3⟩ := hrow r (List.mem_of_getElem? hr)
    have hsum := wsum_take wt rows hr
    generalize wsum wt (rows.take i) = acc at *
    obtain ⟨a, b⟩ := r
    dsimp only at *
    replace F1 := fr_b F1 (ps := [(Str.ofString "weight", .int wt tw), (Str.ofString "told", .int acc tt)]) (by intro q hq; simp only [List.mem_cons, List.not_mem_nil, or_false] at hq; rcases hq with rfl | rfl; exact hw; exact ht)
    replace N1 : News _ _ h ((p, tupO a t b u) :: (I, o) :: _) := List.forall_mem_cons.mpr ⟨N1 (p, tupO a t b u) (.tail _ hp), N1⟩
    k_steps
    refine' ret' _ _ _ _ ?yF ?yJ ?yN hoff
    case yF => k_asm
    case yN => exact news_tl (by k_asm)
    case yJ => exact ⟨rfl, rfl, _, by rw [hsum]; rfl⟩
end
theorem rng7 : rangeItms 1 7 = [.tok (fun t => .int 1 t), .tok (fun t => .int 2 t), .tok (fun t => .int 3 t), .tok (fun t => .int 4 t), .tok (fun t => .int 5 t), .tok (fun t => .int 6 t), .tok (fun t => .int 7 t)] := rfl
theorem compEnd_same {h₀ : Heap} {L I C D : Addr} {m : Str → Option Value} {s₁ : Shared} {oI oC oD : Obj} {S : List (Addr × Obj) → Prop} {rest : Value → List (Addr × Obj) → Prop} {y : Value} {h' : Heap} {tk : Nat} {news' : List (Addr × Obj)}
    (F : Fr h₀ L h' m) (N : News h₀ L h' ((I, oI) :: (C, oC) :: (D, oD) :: news')) (off : LCg.Off3 I C D news') (hS : S news') (r : rest y news') :
    LCg.CompEnd h₀ L m s₁ I oI C oC D oD S rest y { s₁ with heap := h', toks := tk } := ⟨h', tk, news', rfl, F, N, off, hS, r⟩
section
variable {prog : Program} {w : World} {A : Around} {E : Value → Shared → Prop} {s : Shared} {t u : Tok}
theorem pow2_k {k : Nat} {Q : Value → Shared → Prop} (hk : k ≤ 8) (h : Q (.int ((2 ^ k : Nat) : Int) s.toks) { s with toks := s.toks + 1 }) : wpAny (model prog w) A (binaryOp .Pow (.int 2 t) (.int (0 + (k : Int)) u)) Q E s := by
  refine PyProof.Rows.pow_int_small (by omega) (by omega) (by decide) ?_
  have e : (2 : Int) ^ (0 + (k : Int)).toNat = ((2 ^ k : Nat) : Int) := by
    rw [Int.zero_add, Int.toNat_natCast]; simp
  rw [e]; exact h
theorem fdiv_k {c : Int} {n k : Nat} {Q : Value → Shared → Prop} (hc : c = (n : Int)) (hk : k ≤ 8) (h : Q (.int ((n / 2 ^ k : Nat) : Int) s.toks) { s with toks := s.toks + 1 }) : wpAny (model prog w) A (binaryOp .FloorDiv (.int c t) (.int ((2 ^ k : Nat) : Int) u)) Q E s := by
  subst hc
  have hp : 0 < 2 ^ k := Nat.pow_pos (by decide)
  have hle : 2 ^ k ≤ 256 := Nat.le_trans (Nat.pow_le_pow_right (by decide) hk) (by decide)
  have e : ((n : Int)).fdiv ((2 ^ k : Nat) : Int) = ((n / 2 ^ k : Nat) : Int) := by
    rw [Int.fdiv_eq_ediv_of_nonneg _ (by omega)]; rfl
  refine PyProof.Rows.floordiv_int (by omega) (by rw [e]; exact h) (Or.inl (PyProof.noPylong_of_log2 ?_))
  have h2 : (((2 ^ k : Nat) : Int).natAbs).log2 ≤ ((2 ^ k : Nat) : Int).natAbs := Nat.log2_le_self _
  have h3 : ((2 ^ k : Nat) : Int).natAbs = 2 ^ k := Int.natAbs_natCast _
  omega
theorem mod2_k {n : Nat} {Q : Value → Shared → Prop} (h : Q (.int ((n % 2 : Nat) : Int) s.toks) { s with toks := s.toks + 1 }) : wpAny (model prog w) A (binaryOp .Mod (.int (n : Int) t) (.int 2 u)) Q E s := fmod2_nat h
theorem truthy_k {n : Nat} (b : Bool) {Q : Bool → Shared → Prop} (e : (n == 0) = !b) (h : Q b s) : wpAny (model prog w) A (truthy (.int (n : Int) t)) Q E s := P.truthy_int (by
  have e2 : (((n : Int)) != 0) = b := by
    have e3 : (n == 0) = !b := e
    cases b
    · simp at e3; simp [e3]
    · simp at e3; simp; omega
  rw [e2]; exact h)
end
theorem news_cells {h₀ h : Heap} {L : Addr} {p1 p2 p3 p4 : Addr × Obj} {news : List (Addr × Obj)} (N : News h₀ L h (p1 :: p2 :: p3 :: p4 :: news)) : News h₀ L h (p1 :: p4 :: news) :=
  fun p hp => N p (by simp only [List.mem_cons] at hp ⊢; rcases hp with h | h | h <;> simp [h])
theorem news_ch {h₀ h : Heap} {L : Addr} {p1 p2 p3 p5 p6 p7 : Addr × Obj} {l c : Nat} {vs : List Value} {v : Value} {news : List (Addr × Obj)} (N : News h₀ L h (p1 :: p2 :: p3 :: (l, W.listOf (vs.toArray.push v) c) :: p5 :: p6 :: p7 :: news)) : News h₀ L h (p3 :: (l, W.listOf (vs ++ [v]).toArray c) :: p5 :: p6 :: p7 :: p1 :: news) := by
  have e : vs.toArray.push v = (vs ++ [v]).toArray := by simp
  rw [e] at N
  exact fun p hp => N p (by simp only [List.mem_cons] at hp ⊢; rcases hp with h | h | h | h | h | h | h <;> simp [h])
def chRows (f0 f1 f2 : Nat) : List (Int × Int) :=
  [(1, Builtin.bitAnd 511 f0), (1, Builtin.bitAnd 511 f1), (2, Builtin.bitAnd (Builtin.bitAnd 511 f0) f1), (1, Builtin.bitAnd 511 f2), (2, Builtin.bitAnd (Builtin.bitAnd 511 f0) f2), (2, Builtin.bitAnd (Builtin.bitAnd 511 f1) f2), (3, Builtin.bitAnd (Builtin.bitAnd (Builtin.bitAnd 511 f0) f1) f2)]
structure Off (rest : List (Addr × Obj)) (x : Nat) : Prop where
  ne : ∀ p ∈ rest, p.1 ≠ x
theorem Off.cons {rest : List (Addr × Obj)} {x d : Nat} {o : Obj} (h : Off rest x) (k : d ≠ x) : Off ((d, o) :: rest) x := ⟨List.forall_mem_cons.mpr ⟨k, h.ne⟩⟩
section
variable {prog : Program} {w : World} {A : Around} {E : Value → Shared → Prop} {s : Shared} {env : Env} {g : Heap} {x : Str} {px : Pos} {body : List Stmt} {Q : Flow → Shared → Prop}
abbrev ChTurn (prog : Program) (w : World) (A : Around) (E : Value → Shared → Prop) (s : Shared) (env : Env) (g : Heap) (x : Str) (px : Pos) (body : List Stmt) (I l c1 c2 S : Nat) (oS : Obj) (n : Int) (r : Int × Int) : Prop :=
  ∀ (Qn : Flow → Shared → Prop) (o : Obj) (h : Heap) (tk : Nat) (m : Str → Option Value) (vs : List Value) (c : Nat) (o1 o2 : Obj) (v : Option Value) (rest : List (Addr × Obj)) (u : Tok), o.cls = .type "range_iterator" → Fr g env.locals h (kstB m [(Str.ofString "rows", .ref l)]) →
    News g env.locals h ((I, o) :: (l, W.listOf vs.toArray c) :: (c1, o1) :: (c2, o2) :: (S, oS) :: rest) → o1.data = .cell v → o2.data = .cell (some (.ref S)) → vs.length ≤ 10 →
    (∀ p ∈ rest, p.1 ≠ I) → (∀ p ∈ rest, p.1 ≠ l) → (∀ p ∈ rest, p.1 ≠ c1) → (∀ p ∈ rest, p.1 ≠ c2) → (∀ p ∈ rest, p.1 ≠ S) →
    (∀ h' tk' m' c' o1' v' (D : Nat) t u, Fr g env.locals h' m' → m' (Str.ofString "rows") = some (.ref l) → News g env.locals h' ((I, o) :: (l, W.listOf (vs ++ [Value.ref D]).toArray c') :: (c1, o1') :: (c2, o2) :: (S, oS) :: (D, tupO r.1 t r.2 u) :: rest) → o1'.data = .cell v' →
      D ≠ I → D ≠ l → D ≠ c1 → D ≠ c2 → D ≠ S → (∀ p ∈ rest, p.1 ≠ D) → Qn .next { s with heap := h', toks := tk' }) →
    wpAny (model prog w) A (assign (.Name x px) env (.int n u)) (fun _ s₂ => wpAny (model prog w) A (execs body env) Qn E s₂) E { s with heap := h, toks := tk }
theorem ch_iter {f0 f1 f2 : Nat} {I l c1 c2 S : Nat} {oS o1 o2 : Obj} {v : Option Value} {c : Nat} {news : List (Addr × Obj)} {m : Str → Option Value}
    (hm : m (Str.ofString "rows") = some (.ref l)) (d1 : o1.data = .cell v) (d2 : o2.data = .cell (some (.ref S)))
    (e1 : ∀ p ∈ news, p.1 ≠ I) (e2 : ∀ p ∈ news, p.1 ≠ l) (e3 : ∀ p ∈ news, p.1 ≠ c1) (e4 : ∀ p ∈ news, p.1 ≠ c2) (e5 : ∀ p ∈ news, p.1 ≠ S)
    (q1 : l ≠ I) (q2 : c1 ≠ I) (q3 : c2 ≠ I) (q4 : S ≠ I)
    (T : ∀ (n : Nat) (r : Int × Int), (chRows f0 f1 f2)[n]? = some r → ChTurn prog w A E s env g x px body I l c1 c2 S oS ((n + 1 : Nat) : Int) r)
    (fin : ∀ h' tk' m' c' o1' v' vs tups, Fr g env.locals h' m' → m' (Str.ofString "rows") = some (.ref l) → News g env.locals h' ((l, W.listOf vs.toArray c') :: (c1, o1') :: (c2, o2) :: (S, oS) :: (tups ++ news)) → o1'.data = .cell v' → RowsIn tups vs (chRows f0 f1 f2) → (∀ q ∈ tups, (∀ p ∈ news, p.1 ≠ q.1) ∧ q.1 ≠ S ∧ q.1 ≠ l) → Q .next { s with heap := h', toks := tk' }) :
    ItemsRest prog w A E g env (.Name x px) body Q s [(I, "range_iterator")] [] [.tok (fun t => .int 1 t), .tok (fun t => .int 2 t), .tok (fun t => .int 3 t), .tok (fun t => .int 4 t), .tok (fun t => .int 5 t), .tok (fun t => .int 6 t), .tok (fun t => .int 7 t)] m ((l, W.listOf #[] c) :: (c1, o1) :: (c2, o2) :: (S, oS) :: news) := by
  refine restJ (fun i m nx => ∃ vs c o1 v tups tl, tl = tups ++ news ∧ nx = (l, W.listOf vs.toArray c) :: (c1, o1) :: (c2, o2) :: (S, oS) :: tl ∧ m (Str.ofString "rows") = some (.ref l) ∧ o1.data = .cell v ∧ RowsIn tups vs ((chRows f0 f1 f2).take i) ∧ (∀ q ∈ tups, (∀ p ∈ news, p.1 ≠ q.1) ∧ q.1 ≠ S ∧ q.1 ≠ l) ∧ vs.length ≤ i ∧
      (∀ p ∈ tl, p.1 ≠ I) ∧ (∀ p ∈ tl, p.1 ≠ l) ∧ (∀ p ∈ tl, p.1 ≠ c1) ∧ (∀ p ∈ tl, p.1 ≠ c2) ∧ (∀ p ∈ tl, p.1 ≠ S)) ?_ ?_ ⟨[], c, o1, v, [], news, rfl, rfl, hm, d1, ⟨rfl, fun i v r h => by simp at h⟩, (fun q hq => nomatch hq), Nat.le_refl _, e1, e2, e3, e4, e5⟩ ?_
  · rintro i a m₁ nx v' h tk o hia ⟨vs, c, o1, v, tups, tl, htl, rfl, hm₁, hd1, hR, hk, hvl, k1, k2, k3, k4, k5⟩ hoff hv ho F₁ N₁ Qn ret
    have hi : i < 7 := (List.getElem?_eq_some_iff.mp hia).1
    have hr : ∃ r, (chRows f0 f1 f2)[i]? = some r := ⟨_, List.getElem?_eq_getElem (by show i < 7; exact hi)⟩
    obtain ⟨r, hr⟩ := hr
    have hval : ∃ u, v' = .int ((i + 1 : Nat) : Int) u := by
      have h7 : i = 0 ∨ i = 1 ∨ i = 2 ∨ i = 3 ∨ i = 4 ∨ i = 5 ∨ i = 6 := by omega
      rcases h7 with rfl | rfl | rfl | rfl | rfl | rfl | rfl <;>
        (simp only [List.getElem?_cons_zero, List.getElem?_cons_succ, Option.some.injEq] at hia
         subst hia
         obtain ⟨u, rfl⟩ := hv
         exact ⟨u, rfl⟩)
    obtain ⟨u, rfl⟩ := hval
    have F₂ := fr_b F₁ (ps := [(Str.ofString "rows", Value.ref l)]) (by intro q hq; rw [List.mem_singleton.mp hq]; exact hm₁)
    have htk : (chRows f0 f1 f2).take (i + 1) = (chRows f0 f1 f2).take i ++ [(r.1, r.2)] := by rw [List.take_add_one, hr]; rfl
    refine T i r hr Qn o h tk m₁ vs c o1 o2 v tl u ho F₂ N₁ hd1 d2 (by omega) k1 k2 k3 k4 k5 fun h' tk' m' c' o1' v' D t u' F' hm' N' hd' g1 g2 g3 g4 g5 g6 => ?_
    refine ret h' tk' m' _ F' ⟨vs ++ [Value.ref D], c', o1', v', _ :: tups, _, by rw [htl]; rfl, rfl, hm', hd', by rw [htk]; exact hR.snoc, List.forall_mem_cons.mpr ⟨⟨fun p hp => g6 p (by rw [htl]; exact List.mem_append_right _ hp), g5, g2⟩, hk⟩, by simp; omega, ?_, ?_, ?_, ?_, ?_⟩ N' ?_
    · exact List.forall_mem_cons.mpr ⟨g1, k1⟩
    · exact List.forall_mem_cons.mpr ⟨g2, k2⟩
    · exact List.forall_mem_cons.mpr ⟨g3, k3⟩
    · exact List.forall_mem_cons.mpr ⟨g4, k4⟩
    · exact List.forall_mem_cons.mpr ⟨g5, k5⟩
    · exact List.forall_mem_cons.mpr ⟨q1, List.forall_mem_cons.mpr ⟨q2, List.forall_mem_cons.mpr ⟨q3, List.forall_mem_cons.mpr ⟨q4, List.forall_mem_cons.mpr ⟨g1, k1⟩⟩⟩⟩⟩
  · rintro m₁ nx h tk ⟨vs, c, o1, v, tups, tl, rfl, rfl, hm₁, hd1, hR, hk, hvl, k1, k2, k3, k4, k5⟩ hoff F₁ N₁
    exact fin h tk m₁ c o1 v vs tups F₁ hm₁ N₁ hd1 hR hk
  · exact List.forall_mem_cons.mpr ⟨q1, List.forall_mem_cons.mpr ⟨q2, List.forall_mem_cons.mpr ⟨q3, List.forall_mem_cons.mpr ⟨q4, e1⟩⟩⟩⟩
end
local macro_rules | `(tactic| walk_at "call type:range") => `(tactic| (k_here; (with_reducible show wpAny _ _ (call (Value.type _) [Value.int 1 _, Value.int 8 _]) (fun xv s₁ => wpAny _ _ (pyIter xv) (fun it s₂ => TurnsAt _ _ _ _ _ _ _ _ _ it s₂) _ s₁) _ _); (with_unfolding_all refine' range2_T (n := 7) ?a ?a2 ?b ?z rng7 ?h ?F ?N ?_; (case a => decide); (case a2 => decide); (case b => rfl); (case z => decide); (case h => with_unfolding_all rfl); (case F => k_asm); (case N => k_asm); k_whole); intro i' l1; (try k_lt l1)))
local macro_rules | `(tactic| walk_at "CompEnd") => `(tactic| (k_here; k_dflt (refine' compEnd_same ?F ?N ?o ?zs ?_; (case F => k_asm); (case N => k_asm); (case o => assumption); (case zs => lcg_src))))
local macro_rules | `(tactic| walk_at "binaryOp Pow int int") => `(tactic| (k_here; (with_reducible refine' pow2_k ?zk ?_); (case zk => decide)))
local macro_rules | `(tactic| walk_at "binaryOp FloorDiv int int") => `(tactic| (k_here; (with_reducible refine' fdiv_k (n := ?zn) ?ze ?zk ?_); (case zk => decide); (case ze => with_reducible first | exact (rfl : (1 : Int) = ((1 : Nat) : Int)) | exact (rfl : (2 : Int) = ((2 : Nat) : Int)) | exact (rfl : (3 : Int) = ((3 : Nat) : Int)) | exact (rfl : (4 : Int) = ((4 : Nat) : Int)) | exact (rfl : (5 : Int) = ((5 : Nat) : Int)) | exact (rfl : (6 : Int) = ((6 : Nat) : Int)) | exact (rfl : (7 : Int) = ((7 : Nat) : Int)))))
local macro_rules | `(tactic| walk_at "binaryOp Mod int int") => `(tactic| (k_here; (with_reducible refine' mod2_k ?_)))
local macro_rules | `(tactic| walk_at "truthy int") => `(tactic| (k_here; first | (with_reducible refine' truthy_k true ?ze ?_; (case ze => exact rfl)) | (with_reducible refine' truthy_k false ?ze ?_; (case ze => exact rfl))))
section
variable {w : World} {loose : List Str} {mean : ExcName → Option Value} {mg mb : Str → Option Value} {news : List (Addr × Obj)} {un : Nat} {dp : Nat} {gd : Option (List Code)} {cn : Str} {nm : List (Str × NameKind)} {ig ic : Bool} {mo : List (Str × Const)} {a : Addr} {ccd : Value} {cl : List (Str × Addr)} {outer : List Env} {A₀ : Around} {base h₀ : Heap} {L : Addr} {m : Str → Option Value} {s : Shared} {Q E : Value → Shared → Prop}
theorem c_choices {S : Nat} {f0 f1 f2 : Nat} {t0 t1 t2 : Tok} {c : Nat} (B : Below A₀ base outer h₀) (F : Fr h₀ L s.heap m) (X : (hd.heap_39 w.params).In h₀) (N : News h₀ L s.heap ((S, W.listOf #[.int (f0 : Int) t0, .int (f1 : Int) t1, .int (f2 : Int) t2] c) :: news)) (T : Top hd.view_39 loose mean mg mb h₀) (nS : ∀ p ∈ news, p.1 ≠ S) (hdp : dp + 20 < recursionLimit) (hun : un + 90 < cLine)
    (ret : ∀ (R : Nat) vs c' tups h' tk', Fr h₀ L h' m → News h₀ L h' ((R, W.listOf vs.toArray c') :: (S, W.listOf #[.int (f0 : Int) t0, .int (f1 : Int) t1, .int (f2 : Int) t2] c) :: (tups ++ news)) → RowsIn tups vs (chRows f0 f1 f2) → (∀ q ∈ tups, (∀ p ∈ news, p.1 ≠ q.1) ∧ q.1 ≠ S ∧ q.1 ≠ R) → (∀ p ∈ news, p.1 ≠ R) → S ≠ R → Q (.ref R) { s with heap := h', toks := tk' }) :
    wpAny (model PG w) (ktrTop dp un gd cn ⟨.function, nm, ig, ic, mo⟩ L a ccd cl outer) (call (.ref 834) [.ref S]) Q E s := by
  repeat' (first | (k_unfold; (try dsimp only)) | ((fail_if_success (with_reducible show ItemsRest _ _ _ _ _ _ _ _ _ _ _ _ _ _ _)); first | walk1 | (dsimp only; walk1)))
  refine' ch_iter (f0 := f0) (f1 := f1) (f2 := f2) ?zm ?zd1 ?zd2 ?ze1 ?ze2 ?ze3 ?ze4 ?ze5 ?zq1 ?zq2 ?zq3 ?zq4 ?zT ?zfin
  case zm => rfl
  case zd1 => assumption
  case zd2 => assumption
  case ze1 => k_all
  case ze2 => k_all
  case ze3 => exact fun p hp => Nat.ne_of_lt (Nat.lt_succ_of_lt (Nat.lt_succ_of_lt (ktn_ltOf (by tbn_find) p hp)))
  case ze4 => exact fun p hp => Nat.ne_of_lt (Nat.lt_succ_of_lt (ktn_ltOf (by tbn_find) p hp))
  case ze5 => exact nS
  case zq1 => k_ne
  case zq2 => k_ne
  case zq3 => k_ne
  case zq4 => k_ne
  case zT =>
    intro n r hr
    have hn : n = 0 ∨ n = 1 ∨ n = 2 ∨ n = 3 ∨ n = 4 ∨ n = 5 ∨ n = 6 := by
      have : n < 7 := (List.getElem?_eq_some_iff.mp hr).1
      omega
    rcases hn with rfl | rfl | rfl | rfl | rfl | rfl | rfl
    · have e : r = (1, Builtin.bitAnd 511 f0) := by simpa [chRows] using hr.symm
      subst e
      show ChTurn _ _ _ _ _ _ _ _ _ _ _ _ _ _ _ _ 1 _
      intro Qn o h tk m vs c o1 o2 v rest u ho F1 N1 d1 d2 hvl k1 k2 k3 k4 k5 ret'
      k_steps
      refine' ret' _ _ _ _ _ _ _ _ _ ?yF ?ym ?yN ?yd ?g1 ?g2 ?g3 ?g4 ?g5 ?g6
      case yF => k_asm
      case ym => rfl
      case yN => exact news_ch (by k_asm)
      case yd => assumption
      case g1 => k_ne
      case g2 => k_ne
      case g3 => k_ne
      case g4 => k_ne
      case g5 => k_ne
      case g6 => exact fun p hp => Nat.ne_of_lt (ktn_ltOf (by first | tbn_find | assumption) p hp)
    · have e : r = (1, Builtin.bitAnd 511 f1) := by simpa [chRows] using hr.symm
      subst e
      show ChTurn _ _ _ _ _ _ _ _ _ _ _ _ _ _ _ _ 2 _
      intro Qn o h tk m vs c o1 o2 v rest u ho F1 N1 d1 d2 hvl k1 k2 k3 k4 k5 ret'
      k_steps
      refine' ret' _ _ _ _ _ _ _ _ _ ?yF ?ym ?yN ?yd ?g1 ?g2 ?g3 ?g4 ?g5 ?g6
      case yF => k_asm
      case ym => rfl
      case yN => exact news_ch (by k_asm)
      case yd => assumption
      case g1 => k_ne
      case g2 => k_ne
      case g3 => k_ne
      case g4 => k_ne
      case g5 => k_ne
      case g6 => exact fun p hp => Nat.ne_of_lt (ktn_ltOf (by first | tbn_find | assumption) p hp)
    · have e : r = (2, Builtin.bitAnd (Builtin.bitAnd 511 f0) f1) := by simpa [chRows] using hr.symm
      subst e
      show ChTurn _ _ _ _ _ _ _ _ _ _ _ _ _ _ _ _ 3 _
      intro Qn o h tk m vs c o1 o2 v rest u ho F1 N1 d1 d2 hvl k1 k2 k3 k4 k5 ret'
      k_steps
      refine' ret' _ _ _ _ _ _ _ _ _ ?yF ?ym ?yN ?yd ?g1 ?g2 ?g3 ?g4 ?g5 ?g6
      case yF => k_asm
      case ym => rfl
      case yN => exact news_ch (by k_asm)
      case yd => assumption
      case g1 => k_ne
      case g2 => k_ne
      case g3 => k_ne
      case g4 => k_ne
      case g5 => k_ne
      case g6 => exact fun p hp => Nat.ne_of_lt (ktn_ltOf (by first | tbn_find | assumption) p hp)
    · have e : r = (1, Builtin.bitAnd 511 f2) := by simpa [chRows] using hr.symm
      subst e
      show ChTurn _ _ _ _ _ _ _ _ _ _ _ _ _ _ _ _ 4 _
      intro Qn o h tk m vs c o1 o2 v rest u ho F1 N1 d1 d2 hvl k1 k2 k3 k4 k5 ret'
      k_steps
      refine' ret' _ _ _ _ _ _ _ _ _ ?yF ?ym ?yN ?yd ?g1 ?g2 ?g3 ?g4 ?g5 ?g6
      case yF => k_asm
      case ym => rfl
      case yN => exact news_ch (by k_asm)
      case yd => assumption
      case g1 => k_ne
      case g2 => k_ne
      case g3 => k_ne
      case g4 => k_ne
      case g5 => k_ne
      case g6 => exact fun p hp => Nat.ne_of_lt (ktn_ltOf (by first | tbn_find | assumption) p hp)
    · have e : r = (2, Builtin.bitAnd (Builtin.bitAnd 511 f0) f2) := by simpa [chRows] using hr.symm
      subst e
      show ChTurn _ _ _ _ _ _ _ _ _ _ _ _ _ _ _ _ 5 _
      intro Qn o h tk m vs c o1 o2 v rest u ho F1 N1 d1 d2 hvl k1 k2 k3 k4 k5 ret'
      k_steps
      refine' ret' _ _ _ _ _ _ _ _ _ ?yF ?ym ?yN ?yd ?g1 ?g2 ?g3 ?g4 ?g5 ?g6
      case yF => k_asm
      case ym => rfl
      case yN => exact news_ch (by k_asm)
      case yd => assumption
      case g1 => k_ne
      case g2 => k_ne
      case g3 => k_ne
      case g4 => k_ne
      case g5 => k_ne
      case g6 => exact fun p hp => Nat.ne_of_lt (ktn_ltOf (by first | tbn_find | assumption) p hp)
    · have e : r = (2, Builtin.bitAnd (Builtin.bitAnd 511 f1) f2) := by simpa [chRows] using hr.symm
      subst e
      show ChTurn _ _ _ _ _ _ _ _ _ _ _ _ _ _ _ _ 6 _
      intro Qn o h tk m vs c o1 o2 v rest u ho F1 N1 d1 d2 hvl k1 k2 k3 k4 k5 ret'
      k_steps
      refine' ret' _ _ _ _ _ _ _ _ _ ?yF ?ym ?yN ?yd ?g1 ?g2 ?g3 ?g4 ?g5 ?g6
      case yF => k_asm
      case ym => rfl
      case yN => exact news_ch (by k_asm)
      case yd => assumption
      case g1 => k_ne
      case g2 => k_ne
      case g3 => k_ne
      case g4 => k_ne
      case g5 => k_ne
      case g6 => exact fun p hp => Nat.ne_of_lt (ktn_ltOf (by first | tbn_find | assumption) p hp)
    · have e : r = (3, Builtin.bitAnd (Builtin.bitAnd (Builtin.bitAnd 511 f0) f1) f2) := by simpa [chRows] using hr.symm
      subst e
      show ChTurn _ _ _ _ _ _ _ _ _ _ _ _ _ _ _ _ 7 _
      intro Qn o h tk m vs c o1 o2 v rest u ho F1 N1 d1 d2 hvl k1 k2 k3 k4 k5 ret'
      k_steps
      refine' ret' _ _ _ _ _ _ _ _ _ ?yF ?ym ?yN ?yd ?g1 ?g2 ?g3 ?g4 ?g5 ?g6
      case yF => k_asm
      case ym => rfl
      case yN => exact news_ch (by k_asm)
      case yd => assumption
      case g1 => k_ne
      case g2 => k_ne
      case g3 => k_ne
      case g4 => k_ne
      case g5 => k_ne
      case g6 => exact fun p hp => Nat.ne_of_lt (ktn_ltOf (by first | tbn_find | assumption) p hp)
  case zfin =>
    intro h' tk' m' c' o1' v' vs tups F1 hm' N1 hd1 hR hk
    replace F1 := fr_b F1 (ps := [(Str.ofString "rows", Value.ref _)]) (by intro q hq; rw [List.mem_singleton.mp hq]; exact hm')
    (try k_unfold)
    (try dsimp only)
    k_steps
    refine' ret _ _ _ _ _ _ ?yF ?yN hR hk ?yr ?ys
    case yF => k_asm
    case yN => exact news_cells (by k_asm)
    case yr => exact fun p hp => Nat.ne_of_lt (ktn_ltOf (by first | tbn_find | assumption) p hp)
    case ys => k_ne
end
def heldN (f0 f1 f2 i : Nat) : Nat := f0 / 2 ^ i % 2 + f1 / 2 ^ i % 2 + f2 / 2 ^ i % 2
def pwN (w : Int) (h : Nat) : Int := ((List.range h).map fun k => (w + 1) ^ k).sum
def powN (w : Int) (f0 f1 f2 n : Nat) : Int := ((List.range n).map fun i => pwN w (heldN f0 f1 f2 i)).sum
theorem powN_succ (w : Int) (f0 f1 f2 n : Nat) : powN w f0 f1 f2 (n + 1) = powN w f0 f1 f2 n + pwN w (heldN f0 f1 f2 n) := by
  unfold powN
  rw [List.range_succ, List.map_append, List.sum_append]
  simp
theorem held_le (f0 f1 f2 i : Nat) : heldN f0 f1 f2 i = 0 ∨ heldN f0 f1 f2 i = 1 ∨ heldN f0 f1 f2 i = 2 ∨ heldN f0 f1 f2 i = 3 := by
  unfold heldN
  have h0 := Nat.mod_lt (f0 / 2 ^ i) (show 0 < 2 by decide)
  have h1 := Nat.mod_lt (f1 / 2 ^ i) (show 0 < 2 by decide)
  have h2 := Nat.mod_lt (f2 / 2 ^ i) (show 0 < 2 by decide)
  omega
section
variable {prog : Program} {w : World} {A : Around} {E : Value → Shared → Prop} {s : Shared} {t u : Tok}
theorem pow2_i {k : Nat} {Q : Value → Shared → Prop} (hk : k ≤ 8) (h : Q (.int ((2 ^ k : Nat) : Int) s.toks) { s with toks := s.toks + 1 }) : wpAny (model prog w) A (binaryOp .Pow (.int 2 t) (.int (k : Int) u)) Q E s := by
  refine PyProof.Rows.pow_int_small (by omega) (by omega) (by decide) ?_
  have e : (2 : Int) ^ ((k : Int)).toNat = ((2 ^ k : Nat) : Int) := by
    rw [Int.toNat_natCast]; simp
  rw [e]; exact h
theorem fdiv_x {x : Int} {k : Nat} {Q : Value → Shared → Prop} (hk : k ≤ 8) (h : Q (.int (x.fdiv ((2 ^ k : Nat) : Int)) s.toks) { s with toks := s.toks + 1 }) : wpAny (model prog w) A (binaryOp .FloorDiv (.int x t) (.int ((2 ^ k : Nat) : Int) u)) Q E s := by
  have hp : 0 < 2 ^ k := Nat.pow_pos (by decide)
  have hle : 2 ^ k ≤ 256 := Nat.le_trans (Nat.pow_le_pow_right (by decide) hk) (by decide)
  refine PyProof.Rows.floordiv_int (by omega) h (Or.inl (PyProof.noPylong_of_log2 ?_))
  have h2 : (((2 ^ k : Nat) : Int).natAbs).log2 ≤ ((2 ^ k : Nat) : Int).natAbs := Nat.log2_le_self _
  have h3 : ((2 ^ k : Nat) : Int).natAbs = 2 ^ k := Int.natAbs_natCast _
  omega
theorem fmod2_x {x : Int} {Q : Value → Shared → Prop} (h : Q (.int (x.fmod 2) s.toks) { s with toks := s.toks + 1 }) : wpAny (model prog w) A (binaryOp .Mod (.int x t) (.int 2 u)) Q E s := PyProof.Rows.mod_int' (by decide) h
theorem bit_x (n k : Nat) : (((n : Int)).fdiv ((2 ^ k : Nat) : Int)).fmod 2 = ((n / 2 ^ k % 2 : Nat) : Int) := by
  have e : ((n : Int)).fdiv ((2 ^ k : Nat) : Int) = ((n / 2 ^ k : Nat) : Int) := by
    rw [Int.fdiv_eq_ediv_of_nonneg _ (Int.natCast_nonneg _)]; rfl
  rw [e, Int.fmod_eq_emod_of_nonneg _ (by omega)]
  simp
end
theorem pw_sum (wt : Int) (n : Nat) : (List.map (fun (k' : Int) => (wt + 1) ^ k'.toNat) (rangeKs 0 ((n : Int) - 0).toNat)).sum = pwN wt n := by
  have e : ((n : Int) - 0).toNat = n := by omega
  rw [e]
  unfold pwN rangeKs
  rw [List.map_map]
  congr 1
  apply List.map_congr_left
  intro k _
  show (wt + 1) ^ (0 + (k : Int)).toNat = _
  rw [Int.zero_add, Int.toNat_natCast]
theorem held_sum (f0 f1 f2 i : Nat) : (List.map (fun (k' : Int) => (k'.fdiv ((2 ^ i : Nat) : Int)).fmod 2) [(f0 : Int), (f1 : Int), (f2 : Int)]).sum = ((heldN f0 f1 f2 i : Nat) : Int) := by
  simp only [List.map_cons, List.map_nil, List.sum_cons, List.sum_nil, bit_x]
  unfold heldN
  omega
section
variable {prog : Program} {w : World} {A : Around} {E : Value → Shared → Prop} {s : Shared} {env : Env} {g : Heap} {x : Str} {px : Pos} {body : List Stmt} {Q : Flow → Shared → Prop}
abbrev PwTurn (prog : Program) (w : World) (A : Around) (E : Value → Shared → Prop) (s : Shared) (env : Env) (g : Heap) (x : Str) (px : Pos) (body : List Stmt) (I c1 c2 S : Nat) (o2 oS : Obj) (news : List (Addr × Obj)) (f0 f1 f2 : Nat) (wt : Int) : Prop :=
  ∀ (Qn : Flow → Shared → Prop) (o : Obj) (h : Heap) (tk : Nat) (m : Str → Option Value) (i : Nat) (acc : Int) (ta : Tok) (o1 : Obj) (v : Option Value) (u : Tok), i ≤ 8 → o.cls = .type "range_iterator" → Fr g env.locals h (kstB m [(Str.ofString "folders", .ref S), (Str.ofString "due", .int acc ta)]) →
    News g env.locals h ((I, o) :: (c1, o1) :: (c2, o2) :: (S, oS) :: news) → o1.data = .cell v →
    (∀ p ∈ news, p.1 ≠ I) → (∀ p ∈ news, p.1 ≠ c1) → (∀ p ∈ news, p.1 ≠ c2) →
    (∀ h' tk' m' ta' o1' v', Fr g env.locals h' m' → m' (Str.ofString "folders") = some (.ref S) → m' (Str.ofString "due") = some (.int (acc + pwN wt (heldN f0 f1 f2 i)) ta') → News g env.locals h' ((I, o) :: (c1, o1') :: (c2, o2) :: (S, oS) :: news) → o1'.data = .cell v' → Qn .next { s with heap := h', toks := tk' }) →
    wpAny (model prog w) A (assign (.Name x px) env (.int (i : Int) u)) (fun _ s₂ => wpAny (model prog w) A (execs body env) Qn E s₂) E { s with heap := h, toks := tk }
theorem pw_iter {f0 f1 f2 : Nat} {wt : Int} {I c1 c2 S : Nat} {oS o1 o2 : Obj} {v : Option Value} {ta : Tok} {news : List (Addr × Obj)} {m : Str → Option Value}
    (hm : m (Str.ofString "folders") = some (.ref S)) (hd : m (Str.ofString "due") = some (.int 0 ta)) (d1 : o1.data = .cell v)
    (q1 : c1 ≠ I) (q2 : c2 ≠ I) (q3 : S ≠ I) (q4 : ∀ p ∈ news, p.1 ≠ I) (q5 : ∀ p ∈ news, p.1 ≠ c1) (q6 : ∀ p ∈ news, p.1 ≠ c2)
    (T : PwTurn prog w A E s env g x px body I c1 c2 S o2 oS news f0 f1 f2 wt)
    (fin : ∀ h' tk' m' ta' o1' v', Fr g env.locals h' m' → m' (Str.ofString "due") = some (.int (powN wt f0 f1 f2 9) ta') → News g env.locals h' ((c1, o1') :: (c2, o2) :: (S, oS) :: news) → o1'.data = .cell v' → Q .next { s with heap := h', toks := tk' }) :
    ItemsRest prog w A E g env (.Name x px) body Q s [(I, "range_iterator")] [] [Itm.tok (fun t => .int 0 t), Itm.tok (fun t => .int 1 t), Itm.tok (fun t => .int 2 t), Itm.tok (fun t => .int 3 t), Itm.tok (fun t => .int 4 t), Itm.tok (fun t => .int 5 t), Itm.tok (fun t => .int 6 t), Itm.tok (fun t => .int 7 t), Itm.tok (fun t => .int 8 t)] m ((c1, o1) :: (c2, o2) :: (S, oS) :: news) := by
  rw [← rng9]
  refine restJ (fun i m nx => ∃ o1 v ta, nx = (c1, o1) :: (c2, o2) :: (S, oS) :: news ∧ o1.data = .cell v ∧ m (Str.ofString "folders") = some (.ref S) ∧ m (Str.ofString "due") = some (.int (powN wt f0 f1 f2 i) ta)) ?_ ?_ ⟨o1, v, ta, rfl, d1, hm, hd⟩ ?_
  · rintro i a m₁ nx v' h tk o hia ⟨o1, v, ta, rfl, d1, hm₁, hd₁⟩ hoff hv ho F₁ N₁ Qn ret
    have hi : i < 9 := by have := (List.getElem?_eq_some_iff.mp hia).1; rwa [rangeItms_length] at this
    rw [rangeItms_get 9 i 0 hi] at hia
    injection hia with hia
    subst hia
    obtain ⟨u, rfl⟩ := hv
    have F₂ := fr_b F₁ (ps := [(Str.ofString "folders", Value.ref S), (Str.ofString "due", .int (powN wt f0 f1 f2 i) ta)]) (by
      intro q hq
      simp only [List.mem_cons, List.not_mem_nil, or_false] at hq
      rcases hq with rfl | rfl
      · exact hm₁
      · exact hd₁)
    rw [Int.zero_add]
    refine T Qn o h tk m₁ i _ ta o1 v u (by omega) ho F₂ N₁ d1 q4 q5 q6 fun h' tk' m' ta' o1' v' F' hm' hd' N' d1' => ?_
    exact ret h' tk' m' _ F' ⟨o1', v', ta', rfl, d1', hm', by rw [powN_succ]; exact hd'⟩ N' (List.forall_mem_cons.mpr ⟨q1, List.forall_mem_cons.mpr ⟨q2, List.forall_mem_cons.mpr ⟨q3, q4⟩⟩⟩)
  · rintro m₁ nx h tk ⟨o1, v, ta, rfl, d1, hm₁, hd₁⟩ hoff F₁ N₁
    rw [rangeItms_length] at hd₁
    exact fin h tk m₁ ta o1 v F₁ hd₁ N₁ d1
  · exact List.forall_mem_cons.mpr ⟨q1, List.forall_mem_cons.mpr ⟨q2, List.forall_mem_cons.mpr ⟨q3, q4⟩⟩⟩
end
local macro_rules | `(tactic| walk_at "exec For Name Call cons nil") => `(tactic| (k_here; (with_reducible show wpAny _ _ (exec (Stmt.For (Expr.Name (Str.ofString "i") _) _ _ _ _) _) _ _ _); (rename Fr _ _ _ _ => lF'); (with_unfolding_all refine' For_turns lF' ?_; k_whole)))
local macro_rules | `(tactic| walk_at "binaryOp Pow int int") => `(tactic| (k_here; first | (with_reducible refine' pow2_i ?zk ?_; (case zk => assumption)) | ((with_reducible refine' pow_w ?zz ?zy ?zx ?_); (case zx => with_reducible assumption); (case zz => omega); (case zy => omega))))
local macro_rules | `(tactic| walk_at "binaryOp FloorDiv int int") => `(tactic| (k_here; (with_reducible refine' fdiv_x ?zk ?_); (case zk => assumption)))
local macro_rules | `(tactic| walk_at "binaryOp Mod int int") => `(tactic| (k_here; (with_reducible refine' fmod2_x ?_)))
section
variable {w : World} {loose : List Str} {mean : ExcName → Option Value} {mg mb : Str → Option Value} {news : List (Addr × Obj)} {un : Nat} {dp : Nat} {gd : Option (List Code)} {cn : Str} {nm : List (Str × NameKind)} {ig ic : Bool} {mo : List (Str × Const)} {a : Addr} {ccd : Value} {cl : List (Str × Addr)} {outer : List Env} {A₀ : Around} {base h₀ : Heap} {L : Addr} {m : Str → Option Value} {s : Shared} {Q E : Value → Shared → Prop}
theorem c_powers {S : Nat} {f0 f1 f2 : Nat} {t0 t1 t2 : Tok} {c : Nat} {wt : Int} {tw : Tok} (B : Below A₀ base outer h₀) (F : Fr h₀ L s.heap m) (X : (hd.heap_39 w.params).In h₀) (N : News h₀ L s.heap ((S, W.listOf #[.int (f0 : Int) t0, .int (f1 : Int) t1, .int (f2 : Int) t2] c) :: news)) (T : Top hd.view_39 loose mean mg mb h₀) (hb : Builtin.Int.intBits (wt + 1) ≤ 2 ^ 24) (hdp : dp + 20 < recursionLimit) (hun : un + 90 < cLine)
    (ret : ∀ t h' tk', Fr h₀ L h' m → News h₀ L h' ((S, W.listOf #[.int (f0 : Int) t0, .int (f1 : Int) t1, .int (f2 : Int) t2] c) :: news) → Q (.int (powN wt f0 f1 f2 9) t) { s with heap := h', toks := tk' }) :
    wpAny (model PG w) (ktrTop dp un gd cn ⟨.function, nm, ig, ic, mo⟩ L a ccd cl outer) (call (.ref 853) [.ref S, .int wt tw]) Q E s := by
  repeat' (first | (k_unfold; (try dsimp only)) | ((fail_if_success (with_reducible show ItemsRest _ _ _ _ _ _ _ _ _ _ _ _ _ _ _)); first | walk1 | (dsimp only; walk1)))
  refine' pw_iter (f0 := f0) (f1 := f1) (f2 := f2) (wt := wt) ?zm ?zd ?zd1 ?zq1 ?zq2 ?zq3 ?zq4 ?zq5 ?zq6 ?zT ?zfin
  case zm => rfl
  case zd => rfl
  case zd1 => assumption
  case zq1 => k_ne
  case zq2 => k_ne
  case zq3 => k_ne
  case zq4 => k_all
  case zq5 => exact fun p hp => Nat.ne_of_lt (Nat.lt_succ_of_lt (Nat.lt_succ_of_lt (ktn_ltOf (by tbn_find) p hp)))
  case zq6 => exact fun p hp => Nat.ne_of_lt (Nat.lt_succ_of_lt (ktn_ltOf (by tbn_find) p hp))
  case zT =>
    intro Qn o h tk m i acc ta o1 v u hi ho F1 N1 d1 k1 k2 k3 ret'
    repeat' (first | (k_unfold; (try dsimp only)) | ((fail_if_success (with_reducible show wpAny _ _ (exec (Stmt.AugAssign _ _ _ _) _) _ _ _)); first | walk1 | (dsimp only; walk1)))
    (rename Fr _ _ _ _ => lF)
    (rename News _ _ _ _ => lN)
    replace lN := news_tl lN
    rw [held_sum] at lF
    have hn : heldN f0 f1 f2 i ≤ 3 := by have := held_le f0 f1 f2 i; omega
    generalize heldN f0 f1 f2 i = n at lF hn ret'
    k_steps
    (rename News _ _ _ _ => lN)
    replace lN := news_tl lN
    refine' ret' _ _ _ _ _ _ ?yF ?ym ?yd ?yN ?yc
    case yF => k_asm
    case ym => rfl
    case yd => rw [← pw_sum]; rfl
    case yN => k_asm
    case yc => assumption
  case zfin =>
    intro h' tk' m' ta' o1' v' F1 hd' N1 d1
    replace F1 := fr_b F1 (ps := [(Str.ofString "due", Value.int _ _)]) (by intro q hq; rw [List.mem_singleton.mp hq]; exact hd')
    (try k_unfold)
    (try dsimp only)
    k_steps
    refine' ret _ _ _ ?yF ?yN
    case yF => k_asm
    case yN => exact news_tl (news_tl (by k_asm))
end
theorem due_lex : ∀ r : Fin 512, dueL (lst r.val) = lexT (lst r.val) := by decide +kernel
theorem lex_len : ∀ r : Fin 512, (lexT (lst r.val)).length ≤ 100 := by decide +kernel
theorem lex_count : ∀ r : Fin 512, (lexT (lst r.val)).count [45] = (lst r.val).count 45 := by decide +kernel
theorem tokEqAt {A : Around} {s : Shared} (p q : List Nat × Nat) : SeqAt.EqAt A s (tokV p) (tokV q) (toS p.1 == toS q.1) := SeqAt.EqAt.str_str _ _ _ _
section
variable {prog : Program} {w : World} {A : Around} {E : Value → Shared → Prop} {s : Shared}
theorem reads_toks {h : Heap} : ∀ {vs : List Value} {ts : List (List Nat)}, StrsQ vs ts → ReadsAll h vs (ts.map fun y => PyData.str (toS y)) [] := by
  rintro vs ts ⟨ls, rfl, rfl⟩
  induction ls with
  | nil => exact .nil
  | cons p r ih =>
    have := ReadsAll.cons (Reads.str (h := h) (toS p.1) p.2) ih
    simpa [tokV] using this
end
def tokD (r : Nat) : PyData := .list ((lexT (lst r)).map fun y => PyData.str (toS y))
theorem tok_facts : ∀ r : Fin 512, (SeqAt.shaped (tokD r.val) && SeqAt.noMix (tokD r.val) (tokD r.val) && PySem.Spec.same (tokD r.val) (tokD r.val)) = true := by decide +kernel
section
variable {prog : Program} {w : World} {A : Around} {E : Value → Shared → Prop} {s : Shared}
theorem ne_toks {r : Nat} (hr : r < 512) {a b : Addr} {vs us : List Value} {Q : Value → Shared → Prop} (hl : s.heap.IsList a vs.toArray) (hv : StrsQ vs (lexT (lst r))) (hl' : s.heap.IsList b us.toArray) (hu : StrsQ us (dueL (lst r))) (hun : A.units + 64 < cLine)
    (h : Q (.bool false) s) : wpAny (model prog w) A (compareOp .NotEq (.ref a) (.ref b)) Q E s := by
  have e : dueL (lst r) = lexT (lst r) := due_lex ⟨r, hr⟩
  rw [e] at hu
  have f := tok_facts ⟨r, hr⟩
  simp only [Bool.and_eq_true] at f
  obtain ⟨⟨f1, f2⟩, f3⟩ := f
  obtain ⟨o, ho, hc, n, hd⟩ := hl
  obtain ⟨o', ho', hc', n', hd'⟩ := hl'
  have ra : Reads s.heap (.ref a) (tokD r) [a] := Reads.list ho hc hd (by simpa using reads_toks hv)
  have rb : Reads s.heap (.ref b) (tokD r) [b] := Reads.list ho' hc' hd' (by simpa using reads_toks hu)
  exact PyProof.Rows.ne_dataH_same ra rb f1 f1 hun f2 (by rw [f3]; exact h)
end
theorem sum_pick {prog : Program} {w : World} {A : Around} {E : Value → Shared → Prop} {s : Shared} {h₀ : Heap} {L : Addr} {m : Str → Option Value} {news : List (Addr × Obj)} {l : Addr} {vs : List Value} {ns : List Int} {lo hi st : Option Int} {Q : Value → Shared → Prop}
    (hh : A.handled = none) (F : Fr h₀ L s.heap m) (N : News h₀ L s.heap news) (hm : (l, ({ cls := .type "list", data := .seq (slicePick vs.toArray lo hi st) } : Obj)) ∈ news) (hi' : IntsAre vs ns)
    (h : ∀ h' tk t', Fr h₀ L h' m → News h₀ L h' news → Q (.int (pickNums ns lo hi st).sum t') { s with heap := h', toks := tk }) :
    wpAny (model prog w) A (call (.builtin "sum") [.ref l]) Q E s :=
  sumK hh F N (vs := (slicePick vs.toArray lo hi st).toList) ⟨_, (N _ hm).1, rfl, 0, by simp⟩ (hi'.pick lo hi st) h
theorem mod512_x {prog : Program} {w : World} {A : Around} {E : Value → Shared → Prop} {s : Shared} {t u : Tok} {x : Int} {Q : Value → Shared → Prop} (h : Q (.int (x.fmod 512) s.toks) { s with toks := s.toks + 1 }) : wpAny (model prog w) A (binaryOp .Mod (.int x t) (.int 512 u)) Q E s := PyProof.Rows.mod_int' (by decide) h
theorem ints3 {ys : List Value} {f : Int → Int} {l : List Int} (h : IntsAre ys (List.map (fun x => (f x).fmod 512) l)) (hl : l.length = 3) : ∃ (f0 f1 f2 : Nat) (t0 t1 t2 : Tok), ys = [.int (f0 : Int) t0, .int (f1 : Int) t1, .int (f2 : Int) t2] ∧ f0 < 512 ∧ f1 < 512 ∧ f2 < 512 := by
  have b0 : ∀ x : Int, 0 ≤ x.fmod 512 ∧ x.fmod 512 < 512 := fun x => ⟨Int.fmod_nonneg_of_pos _ (by decide), Int.fmod_lt_of_pos _ (by decide)⟩
  match l, hl with
  | [a, b, c], _ =>
    simp only [List.map_cons, List.map_nil] at h
    cases h with
    | cons n0 t0 h =>
      cases h with
      | cons n1 t1 h =>
        cases h with
        | cons n2 t2 h =>
          cases h
          have h0 := b0 (f a)
          have h1 := b0 (f b)
          have h2 := b0 (f c)
          refine ⟨((f a).fmod 512).toNat, ((f b).fmod 512).toNat, ((f c).fmod 512).toNat, t0, t1, t2, ?_, by omega, by omega, by omega⟩
          rw [Int.toNat_of_nonneg h0.1, Int.toNat_of_nonneg h1.1, Int.toNat_of_nonneg h2.1]
theorem news_sw2 {h₀ h : Heap} {L : Addr} {p1 p2 : Addr × Obj} {news : List (Addr × Obj)} (N : News h₀ L h (p1 :: p2 :: news)) : News h₀ L h (p2 :: p1 :: news) :=
  fun p hp => N p (by simp only [List.mem_cons] at hp ⊢; rcases hp with h | h | h <;> simp [h])
theorem news_ml0 {h₀ h : Heap} {L : Addr} {p1 p2 p3 : Addr × Obj} {tups news : List (Addr × Obj)} (N : News h₀ L h (p1 :: p2 :: (tups ++ (p3 :: news)))) : News h₀ L h (p3 :: p1 :: p2 :: (tups ++ news)) :=
  fun p hp => N p (by simp only [List.mem_cons, List.mem_append] at hp ⊢; rcases hp with h | h | h | h | h <;> simp [h])
theorem ml_base {R S sh : Nat} {oR oS : Obj} {tups news : List (Addr × Obj)} (h1 : R ≠ sh) (h2 : S ≠ sh) (h3 : ∀ q ∈ tups, sh ≠ q.1) (h4 : ∀ q ∈ news, q.1 ≠ sh) : ∀ q ∈ (R, oR) :: (S, oS) :: (tups ++ news), q.1 ≠ sh := by
  refine List.forall_mem_cons.mpr ⟨h1, List.forall_mem_cons.mpr ⟨h2, fun q hq => ?_⟩⟩
  rcases List.mem_append.mp hq with h | h
  · exact (h3 q h).symm
  · exact h4 q h
theorem and_lt {a b : Nat} (h : b < 512) : a &&& b < 512 := Nat.lt_of_le_of_lt Nat.and_le_right h
theorem news_mlE {h₀ h : Heap} {L : Addr} {p1 p2 p3 p4 p5 : Addr × Obj} {l c : Nat} {vs : List Value} {v : Value} {news : List (Addr × Obj)} (N : News h₀ L h (p1 :: p2 :: p3 :: p4 :: p5 :: (l, W.listOf (vs.toArray.push v) c) :: news)) : News h₀ L h (p5 :: (l, W.listOf (vs ++ [v]).toArray c) :: p1 :: news) := by
  have e : vs.toArray.push v = (vs ++ [v]).toArray := by simp
  rw [e] at N
  exact fun p hp => N p (by simp only [List.mem_cons] at hp ⊢; rcases hp with h | h | h | h <;> simp [h])
theorem bnot_bnot (x : Int) : Builtin.bitNot (Builtin.bitNot x) = x := by unfold Builtin.bitNot; omega
theorem band_nat (a b : Nat) : Builtin.bitAnd (a : Int) (b : Int) = ((a &&& b : Nat) : Int) := by
  unfold Builtin.bitAnd
  have ha : decide (0 ≤ (a : Int)) = true := decide_eq_true (Int.natCast_nonneg _)
  have hb : decide (0 ≤ (b : Int)) = true := decide_eq_true (Int.natCast_nonneg _)
  rw [ha, hb]
  simp
theorem bor_nat (a b : Nat) : Builtin.bitOr (a : Int) (b : Int) = ((a ||| b : Nat) : Int) := by
  unfold Builtin.bitOr Builtin.bitAnd
  have ha : decide (0 ≤ Builtin.bitNot (a : Int)) = false := decide_eq_false (by unfold Builtin.bitNot; omega)
  have hb : decide (0 ≤ Builtin.bitNot (b : Int)) = false := decide_eq_false (by unfold Builtin.bitNot; omega)
  rw [ha, hb]
  simp only [bnot_bnot, Int.toNat_natCast]
theorem mod2_bit (x : Nat) : x % 2 = if x.testBit 0 then 1 else 0 := by
  rw [Nat.testBit_zero]
  by_cases h : x % 2 = 1
  · simp [h]
  · have : x % 2 = 0 := by omega
    simp [this]
theorem xor_and_or (a : Nat) : ∀ b : Nat, (a ^^^ b) + (a &&& b) = a ||| b := by
  induction a using Nat.strongRecOn with
  | ind a ih =>
    intro b
    by_cases ha : a = 0
    · subst ha; simp
    · have h := ih (a / 2) (by omega) (b / 2)
      have d1 := Nat.div_add_mod (a ^^^ b) 2
      have d2 := Nat.div_add_mod (a &&& b) 2
      have d3 := Nat.div_add_mod (a ||| b) 2
      rw [Nat.xor_div_two, mod2_bit, Nat.testBit_xor] at d1
      rw [Nat.and_div_two, mod2_bit, Nat.testBit_and] at d2
      rw [Nat.or_div_two, mod2_bit, Nat.testBit_or] at d3
      generalize a.testBit 0 = p at *
      generalize b.testBit 0 = q at *
      cases p <;> cases q <;> simp at d1 d2 d3 <;> omega
theorem bxor_nat (a b : Nat) : Builtin.bitXor (a : Int) (b : Int) = ((a ^^^ b : Nat) : Int) := by
  have h := xor_and_or a b
  unfold Builtin.bitXor
  rw [bor_nat, band_nat]
  omega
theorem or_nat {prog : Program} {w : World} {A : Around} {E : Value → Shared → Prop} {s : Shared} {t u : Tok} {a b : Nat} {Q : Value → Shared → Prop} (h : Q (.int ((a ||| b : Nat) : Int) s.toks) { s with toks := s.toks + 1 }) : wpAny (model prog w) A (binaryOp .BitOr (.int (a : Int) t) (.int (b : Int) u)) Q E s := by
  refine PyProof.Rows.or_int ?_
  rw [bor_nat]; exact h
theorem xor_nat {prog : Program} {w : World} {A : Around} {E : Value → Shared → Prop} {s : Shared} {t u : Tok} {a b : Nat} {Q : Value → Shared → Prop} (h : Q (.int ((a ^^^ b : Nat) : Int) s.toks) { s with toks := s.toks + 1 }) : wpAny (model prog w) A (binaryOp .BitXor (.int (a : Int) t) (.int (b : Int) u)) Q E s := by
  refine PyProof.Rows.xor_int ?_
  rw [bxor_nat]; exact h
section
variable {w : World} {loose : List Str} {mean : ExcName → Option Value} {mg mb : Str → Option Value} {news : List (Addr × Obj)} {un : Nat} {dp : Nat} {gd : Option (List Code)} {cn : Str} {nm : List (Str × NameKind)} {ig ic : Bool} {mo : List (Str × Const)} {a : Addr} {ccd : Value} {cl : List (Str × Addr)} {outer : List Env} {A₀ : Around} {base h₀ : Heap} {L : Addr} {m : Str → Option Value} {s : Shared} {Q E : Value → Shared → Prop}
theorem c_listM {x dx io di pb fs : Nat} {t1 t2 t3 tn tb : Tok} {T₁ : ShT} {r : Nat} {k : Nat} {nx : List (Addr × Obj)} (hr : r < 512)
    (B : Below A₀ h₀ outer h₀) (F : Fr h₀ L s.heap m) (X : (hd.heap_39 w.params).In h₀) (N : News h₀ L s.heap nx) (T : Top hd.view_39 loose mean mg mb h₀)
    (hL : LexSt w T₁ x dx io di pb fs t1 t2 t3 tn tb (toS (lst r)) news k (lexT (toS (lst r)).cps.toList) nx) (hk : k ≤ s.toks)
    (o1 : dx < x) (o2 : x < di) (o3 : di < io) (o4 : io < pb) (o5 : pb < fs) (n0 : ∀ p ∈ news, @LT.lt Nat _ p.1 dx) (hdp : dp + 20 < recursionLimit) (hun : un + 140 < cLine)
    (ret : ∀ S vs c h' tk', StrsP tk' vs (lexT (lst r)) → LeT s.toks tk' → Fr h₀ L h' m → News h₀ L h' ((S, W.listOf vs.toArray c) :: news) → (∀ p ∈ news, p.1 < S) → Q (.ref S) { s with heap := h', toks := tk' }) :
    wpAny (model PG w) (ktrTop dp un gd cn ⟨.function, nm, ig, ic, mo⟩ L a ccd cl outer) (call (.type "list") [.ref x]) Q E s :=
  c_list B F X N T (hL.up hk) (by show (((lst r).toArray.size : Nat) : Int) ≤ 20; simp [lst_len]) (lex_len ⟨r, hr⟩) o1 o2 o3 o4 o5 n0 hdp hun ret
theorem c_dueM {r : Nat} {tx : Tok} (B : Below A₀ base outer h₀) (F : Fr h₀ L s.heap m) (X : (hd.heap_39 w.params).In h₀) (N : News h₀ L s.heap news) (T : Top hd.view_39 loose mean mg mb h₀) (hr : r < 512) (hdp : dp + 20 < recursionLimit) (hun : un + 90 < cLine)
    (ret : ∀ (S : Nat) vs c h' tk', LeT s.toks tk' → StrsQ vs (dueL (lst r)) → Fr h₀ L h' m → News h₀ L h' ((S, W.listOf vs.toArray c) :: news) → (∀ p ∈ news, @LT.lt Nat _ p.1 S) → Q (.ref S) { s with heap := h', toks := tk' }) :
    wpAny (model PG w) (ktrTop dp un gd cn ⟨.function, nm, ig, ic, mo⟩ L a ccd cl outer) (call (.ref 829) [.int (r : Int) tx]) Q E s :=
  wpAny_with_toks (Nat.le_refl _) (c_due B F X N T hr hdp hun fun S vs c h' tk' hq F' N' l hle => ret S vs c h' tk' hle hq F' N' l)
end
theorem chRows_nat {f0 f1 f2 : Nat} (h0 : f0 < 512) (h1 : f1 < 512) (h2 : f2 < 512) : ∀ r ∈ chRows f0 f1 f2, ∃ n : Nat, n < 512 ∧ r.2 = (n : Int) := by
  have e : (511 : Int) = ((511 : Nat) : Int) := rfl
  intro r hr
  unfold chRows at hr
  rw [e] at hr
  simp only [band_nat] at hr
  simp only [List.mem_cons, List.not_mem_nil, or_false] at hr
  rcases hr with rfl | rfl | rfl | rfl | rfl | rfl | rfl
  · exact ⟨_, and_lt h0, rfl⟩
  · exact ⟨_, and_lt h1, rfl⟩
  · exact ⟨_, and_lt h1, rfl⟩
  · exact ⟨_, and_lt h2, rfl⟩
  · exact ⟨_, and_lt h2, rfl⟩
  · exact ⟨_, and_lt h2, rfl⟩
  · exact ⟨_, and_lt h2, rfl⟩
def shRow (r : Int × Int) : Int × Int := (r.1, 9 - ((lexT (lst r.2.toNat)).count [45] : Int))
section
variable {prog : Program} {w : World} {A : Around} {E : Value → Shared → Prop} {s : Shared} {env : Env} {g : Heap} {target : Expr} {body : List Stmt} {Q : Flow → Shared → Prop}
abbrev MlTurn (prog : Program) (w : World) (A : Around) (E : Value → Shared → Prop) (s : Shared) (env : Env) (g : Heap) (target : Expr) (body : List Stmt) (sh : Nat) (ps : List (Str × Value)) : Prop :=
  ∀ (Qn : Flow → Shared → Prop) (I : Nat) (o : Obj) (h : Heap) (tk : Nat) (m : Str → Option Value) (ws : List Value) (c : Nat) (rest : List (Addr × Obj)) (a : Int) (r : Nat) (p : Nat) (ta tb : Tok), r < 512 → o.cls = .type "list_iterator" → Fr g env.locals h (kstB m ps) →
    News g env.locals h ((p, tupO a ta (r : Int) tb) :: (I, o) :: (sh, W.listOf ws.toArray c) :: rest) → ws.length ≤ 20 → (∀ q ∈ rest, q.1 ≠ sh) → (∀ q ∈ rest, q.1 ≠ I) → I ≠ sh → p ≠ sh → p ≠ I →
    (∀ h' tk' m' c' (D : Nat) t u, Fr g env.locals h' m' → (∀ q ∈ ps, m' q.1 = some q.2) → News g env.locals h' ((I, o) :: (sh, W.listOf (ws ++ [Value.ref D]).toArray c') :: (D, tupO a t (9 - ((lexT (lst r)).count [45] : Int)) u) :: rest) → D ≠ I → D ≠ sh → Qn .next { s with heap := h', toks := tk' }) →
    wpAny (model prog w) A (assign target env (.ref p)) (fun _ s₂ => wpAny (model prog w) A (execs body env) Qn E s₂) E { s with heap := h, toks := tk }
theorem ml_iter {R sh c' : Nat} {vs : List Value} {rows : List (Int × Int)} {ps : List (Str × Value)} {c : Nat} {tups base : List (Addr × Obj)} {m : Str → Option Value}
    (hR : RowsIn tups vs rows) (hrows : ∀ r ∈ rows, ∃ n : Nat, n < 512 ∧ r.2 = (n : Int)) (hz : rows.length ≤ 10) (hRb : (R, W.listOf vs.toArray c') ∈ base) (htb : ∀ q ∈ tups, q ∈ base) (hbs : ∀ q ∈ base, q.1 ≠ sh)
    (hh : A.handled = none) (F : Fr g env.locals s.heap m) (N : News g env.locals s.heap ((sh, W.listOf #[] c) :: base)) (hm : ∀ q ∈ ps, m q.1 = some q.2) (hE : PassesOwn (model prog w) A env E)
    (T : MlTurn prog w A E s env g target body sh ps)
    (fin : ∀ h tk m ws c rest, Fr g env.locals h (kstB m ps) → News g env.locals h ((sh, W.listOf ws.toArray c) :: rest) → RowsIn rest ws (rows.map shRow) → (∀ q ∈ base, q ∈ rest) → (∀ q ∈ rest, q.1 ≠ sh) → Q .next { s with heap := h, toks := tk }) :
    wpAny (model prog w) A (pyIter (.ref R)) (fun it s₂ => codeAny (model prog w) A (.forLoop target it body [] env) (fun r s' => match r with | .ok f => Q f s' | .error e => cameBackBy (model prog w) A env E e s') s₂) E s := by
  refine for_listJ (vs := vs) (c := c') (fun i m nx => ∃ ws c rest, nx = (sh, W.listOf ws.toArray c) :: rest ∧ (∀ q ∈ ps, m q.1 = some q.2) ∧ RowsIn rest ws ((rows.take i).map shRow) ∧ (∀ q ∈ base, q ∈ rest) ∧ (∀ q ∈ rest, q.1 ≠ sh) ∧ ws.length ≤ i) ?_ hh F N ⟨[], c, base, rfl, hm, ⟨rfl, fun i v r h => by simp at h⟩, fun _ h => h, hbs, Nat.le_refl _⟩ hE ?_ ?_
  · rintro i m nx ⟨ws, c, rest, rfl, -, -, hk, -, -⟩
    exact .tail _ (hk _ hRb)
  · rintro i v I o h tk m₁ nx hv ⟨ws, c, rest, rfl, hm₁, hW, hk, hsh, hwl⟩ ho F₁ N₁ hoff Qn ret
    have hi : i < rows.length := by rw [← hR.1]; exact (List.getElem?_eq_some_iff.mp hv).1
    have hr := List.getElem?_eq_getElem hi
    generalize rows[i] = r at hr
    obtain ⟨p, t, u, rfl, hp⟩ := hR.2 i v r hv hr
    obtain ⟨n, hn, hn2⟩ := hrows r (List.mem_of_getElem? hr)
    have hpr := hk _ (htb _ hp)
    have htk : (rows.take (i + 1)).map shRow = (rows.take i).map shRow ++ [((shRow r).1, (shRow r).2)] := by rw [List.take_add_one, hr]; simp
    have hsr : shRow r = (r.1, 9 - ((lexT (lst n)).count [45] : Int)) := by unfold shRow; rw [hn2, Int.toNat_natCast]
    rw [hn2] at hp hpr
    refine T Qn I o h tk m₁ ws c rest r.1 n p t u hn ho (fr_b F₁ hm₁) (List.forall_mem_cons.mpr ⟨N₁ _ (.tail _ (.tail _ hpr)), N₁⟩) (by omega) hsh (fun q hq => hoff q (.tail _ hq)) (fun e => hoff _ (.head _) e.symm) (hsh _ hpr) (hoff _ (.tail _ hpr)) fun h' tk' m' c' D t' u' F' hm' N' g1 g2 => ?_
    refine ret h' tk' m' _ F' ⟨ws ++ [Value.ref D], c', _, rfl, hm', by rw [htk, hsr]; exact hW.snoc, fun q hq => .tail _ (hk q hq), List.forall_mem_cons.mpr ⟨g2, hsh⟩, by simp; omega⟩ N' ?_
    have hsI : sh ≠ I := hoff (sh, W.listOf ws.toArray c) (.head _)
    exact List.forall_mem_cons.mpr ⟨hsI, List.forall_mem_cons.mpr ⟨g1, fun q hq => hoff q (.tail _ hq)⟩⟩
  · rintro h tk m₁ nx ⟨ws, c, rest, rfl, hm₁, hW, hk, hsh, hwl⟩ F₁ N₁
    rw [hR.1, List.take_length] at hW
    exact fin h tk m₁ ws c rest (fr_b F₁ hm₁) N₁ hW hk hsh
end
def bt (r i : Nat) : Nat := if r.testBit i then 1 else 0
def S9 (g : Nat → Int) : Int := g 0 + g 1 + g 2 + g 3 + g 4 + g 5 + g 6 + g 7 + g 8
def pc (r : Nat) : Int := S9 fun i => (bt r i : Int)
theorem S9_lin (w v : Int) (x y z : Nat → Int) : S9 (fun i => x i + w * y i + v * z i) = S9 x + w * S9 y + v * S9 z := by
  unfold S9
  simp only [Int.mul_add]
  omega
theorem S9_congr {x y : Nat → Int} (h : ∀ i, i < 9 → x i = y i) : S9 x = S9 y := by
  unfold S9
  rw [h 0 (by decide), h 1 (by decide), h 2 (by decide), h 3 (by decide), h 4 (by decide), h 5 (by decide), h 6 (by decide), h 7 (by decide), h 8 (by decide)]
theorem bt_or (a b i : Nat) : (bt (a ||| b) i : Int) = bt a i + bt b i - bt a i * bt b i := by
  unfold bt
  rw [Nat.testBit_or]
  cases a.testBit i <;> cases b.testBit i <;> rfl
theorem bt_xor (a b i : Nat) : (bt (a ^^^ b) i : Int) = bt a i + bt b i - 2 * (bt a i * bt b i) := by
  unfold bt
  rw [Nat.testBit_xor]
  cases a.testBit i <;> cases b.testBit i <;> rfl
theorem bt_and (a b i : Nat) : (bt (a &&& b) i : Int) = bt a i * bt b i := by
  unfold bt
  rw [Nat.testBit_and]
  cases a.testBit i <;> cases b.testBit i <;> rfl
theorem bt_511 (i : Nat) (h : i < 9) : bt 511 i = 1 := by
  have : i = 0 ∨ i = 1 ∨ i = 2 ∨ i = 3 ∨ i = 4 ∨ i = 5 ∨ i = 6 ∨ i = 7 ∨ i = 8 := by omega
  rcases this with rfl | rfl | rfl | rfl | rfl | rfl | rfl | rfl | rfl <;> decide
theorem bt_cases (r i : Nat) : bt r i = 0 ∨ bt r i = 1 := by unfold bt; split <;> simp
theorem bt_div (r i : Nat) : r / 2 ^ i % 2 = bt r i := by
  unfold bt
  rw [Nat.testBit_eq_decide_div_mod_eq]
  by_cases h : r / 2 ^ i % 2 = 1
  · simp [h]
  · have : r / 2 ^ i % 2 = 0 := by omega
    simp [this]
theorem fm_count : ∀ b0 b1 b2 b3 b4 b5 b6 b7 b8 : Bool, (fmS b8 b7 b6 b5 b4 b3 b2 b1 b0).count 45 + ((if b0 then 1 else 0) + (if b1 then 1 else 0) + (if b2 then 1 else 0) + (if b3 then 1 else 0) + (if b4 then 1 else 0) + (if b5 then 1 else 0) + (if b6 then 1 else 0) + (if b7 then 1 else 0) + (if b8 then 1 else 0)) = 9 := by decide +kernel
theorem lst_pc (r : Nat) : ((lst r).count 45 : Int) = 9 - pc r := by
  have h := fm_count (r.testBit 0) (r.testBit 1) (r.testBit 2) (r.testBit 3) (r.testBit 4) (r.testBit 5) (r.testBit 6) (r.testBit 7) (r.testBit 8)
  unfold lst pc S9 bt
  dsimp only
  omega
theorem shRow_nat {a : Int} {r : Nat} (h : r < 512) : shRow (a, (r : Int)) = (a, pc r) := by
  unfold shRow
  have e := lex_count ⟨r, h⟩
  dsimp only at e
  have h2 := lst_pc r
  rw [Int.toNat_natCast, e]
  exact Prod.ext rfl (by show 9 - _ = _; omega)
theorem shRows_eq {f0 f1 f2 : Nat} (h0 : f0 < 512) (h1 : f1 < 512) (h2 : f2 < 512) : (chRows f0 f1 f2).map shRow =
    [(1, pc (511 &&& f0)), (1, pc (511 &&& f1)), (2, pc (511 &&& f0 &&& f1)), (1, pc (511 &&& f2)), (2, pc (511 &&& f0 &&& f2)), (2, pc (511 &&& f1 &&& f2)), (3, pc (511 &&& f0 &&& f1 &&& f2))] := by
  have e : (511 : Int) = ((511 : Nat) : Int) := rfl
  unfold chRows
  rw [e]
  simp only [band_nat, List.map_cons, List.map_nil]
  rw [shRow_nat (and_lt h0), shRow_nat (and_lt h1), shRow_nat (and_lt h1), shRow_nat (and_lt h2), shRow_nat (and_lt h2), shRow_nat (and_lt h2), shRow_nat (and_lt h2)]
theorem wsum_eq {f0 f1 f2 : Nat} (h0 : f0 < 512) (h1 : f1 < 512) (h2 : f2 < 512) (w : Int) : wsum w ((chRows f0 f1 f2).map shRow) =
    S9 (fun i => ((bt f0 i : Int) + bt f1 i + bt f2 i) + w * ((bt f0 i : Int) * bt f1 i + bt f0 i * bt f2 i + bt f1 i * bt f2 i) + w ^ 2 * ((bt f0 i : Int) * bt f1 i * bt f2 i)) := by
  rw [shRows_eq h0 h1 h2, S9_lin]
  have p0 : pc (511 &&& f0) = S9 fun i => (bt f0 i : Int) := S9_congr fun i hi => by rw [bt_and, bt_511 i hi]; simp
  have p1 : pc (511 &&& f1) = S9 fun i => (bt f1 i : Int) := S9_congr fun i hi => by rw [bt_and, bt_511 i hi]; simp
  have p2 : pc (511 &&& f2) = S9 fun i => (bt f2 i : Int) := S9_congr fun i hi => by rw [bt_and, bt_511 i hi]; simp
  have p01 : pc (511 &&& f0 &&& f1) = S9 fun i => (bt f0 i : Int) * bt f1 i := S9_congr fun i hi => by rw [bt_and, bt_and, bt_511 i hi]; simp
  have p02 : pc (511 &&& f0 &&& f2) = S9 fun i => (bt f0 i : Int) * bt f2 i := S9_congr fun i hi => by rw [bt_and, bt_and, bt_511 i hi]; simp
  have p12 : pc (511 &&& f1 &&& f2) = S9 fun i => (bt f1 i : Int) * bt f2 i := S9_congr fun i hi => by rw [bt_and, bt_and, bt_511 i hi]; simp
  have p012 : pc (511 &&& f0 &&& f1 &&& f2) = S9 fun i => (bt f0 i : Int) * bt f1 i * bt f2 i := S9_congr fun i hi => by rw [bt_and, bt_and, bt_and, bt_511 i hi]; simp
  have a1 : S9 (fun i => (bt f0 i : Int) + bt f1 i + bt f2 i) = pc (511 &&& f0) + pc (511 &&& f1) + pc (511 &&& f2) := by rw [p0, p1, p2]; unfold S9; (try dsimp only); omega
  have a2 : S9 (fun i => (bt f0 i : Int) * bt f1 i + bt f0 i * bt f2 i + bt f1 i * bt f2 i) = pc (511 &&& f0 &&& f1) + pc (511 &&& f0 &&& f2) + pc (511 &&& f1 &&& f2) := by rw [p01, p02, p12]; unfold S9; (try dsimp only); omega
  rw [a1, a2, ← p012]
  generalize pc (511 &&& f0) = q0
  generalize pc (511 &&& f1) = q1
  generalize pc (511 &&& f2) = q2
  generalize pc (511 &&& f0 &&& f1) = q01
  generalize pc (511 &&& f0 &&& f2) = q02
  generalize pc (511 &&& f1 &&& f2) = q12
  generalize pc (511 &&& f0 &&& f1 &&& f2) = q012
  unfold wsum
  simp only [List.map_cons, List.map_nil, List.sum_cons, List.sum_nil]
  have e0 : ((1 : Int) - 1).toNat = 0 := rfl
  have e1 : ((2 : Int) - 1).toNat = 1 := rfl
  have e2 : ((3 : Int) - 1).toNat = 2 := rfl
  rw [e0, e1, e2, Int.pow_zero, Int.pow_succ w 0, Int.pow_zero]
  simp only [Int.one_mul, Int.mul_add]
  omega
theorem pwN_bits (w : Int) {a b c : Nat} (ha : a = 0 ∨ a = 1) (hb : b = 0 ∨ b = 1) (hc : c = 0 ∨ c = 1) : pwN w (a + b + c) = ((a : Int) + b + c) + w * ((a : Int) * b + a * c + b * c) + w ^ 2 * ((a : Int) * b * c) := by
  have v0 : pwN w 0 = 0 := rfl
  have v1 : pwN w 1 = 1 := by unfold pwN; simp [List.range_succ]
  have v2 : pwN w 2 = 2 + w := by unfold pwN; simp [List.range_succ, Int.pow_succ]; omega
  have v3 : pwN w 3 = 3 + w * 3 + w ^ 2 := by
    unfold pwN
    simp [List.range_succ, Int.pow_succ, Int.mul_add, Int.add_mul]
    omega
  rcases ha with rfl | rfl <;> rcases hb with rfl | rfl <;> rcases hc with rfl | rfl <;> simp [v0, v1, v2, v3] <;> omega
theorem powN_eq (w : Int) (f0 f1 f2 : Nat) : powN w f0 f1 f2 9 =
    S9 (fun i => ((bt f0 i : Int) + bt f1 i + bt f2 i) + w * ((bt f0 i : Int) * bt f1 i + bt f0 i * bt f2 i + bt f1 i * bt f2 i) + w ^ 2 * ((bt f0 i : Int) * bt f1 i * bt f2 i)) := by
  have e : ∀ i, pwN w (heldN f0 f1 f2 i) = ((bt f0 i : Int) + bt f1 i + bt f2 i) + w * ((bt f0 i : Int) * bt f1 i + bt f0 i * bt f2 i + bt f1 i * bt f2 i) + w ^ 2 * ((bt f0 i : Int) * bt f1 i * bt f2 i) := by
    intro i
    unfold heldN
    rw [bt_div, bt_div, bt_div]
    exact pwN_bits w (bt_cases _ _) (bt_cases _ _) (bt_cases _ _)
  rw [powN_succ, powN_succ, powN_succ, powN_succ, powN_succ, powN_succ, powN_succ, powN_succ, powN_succ]
  rw [e, e, e, e, e, e, e, e, e]
  have z : powN w f0 f1 f2 0 = 0 := rfl
  rw [z]
  unfold S9
  dsimp only
  omega
theorem law_eq {f0 f1 f2 : Nat} (h0 : f0 < 512) (h1 : f1 < 512) (h2 : f2 < 512) (w : Int) : wsum w ((chRows f0 f1 f2).map shRow) = powN w f0 f1 f2 9 := by
  rw [wsum_eq h0 h1 h2, powN_eq]
theorem law_or {f0 f1 f2 : Nat} (h0 : f0 < 512) (h1 : f1 < 512) (h2 : f2 < 512) : ((lst (0 ||| f0 ||| f1 ||| f2)).count 45 : Int) = 9 - wsum (-1) ((chRows f0 f1 f2).map shRow) := by
  rw [lst_pc, wsum_eq h0 h1 h2]
  congr 1
  refine S9_congr fun i _ => ?_
  rw [bt_or, bt_or, bt_or]
  have z : bt 0 i = 0 := by unfold bt; simp
  rw [z]
  rcases bt_cases f0 i with e0 | e0 <;> rcases bt_cases f1 i with e1 | e1 <;> rcases bt_cases f2 i with e2 | e2 <;> rw [e0, e1, e2] <;> decide
theorem law_xor {f0 f1 f2 : Nat} (h0 : f0 < 512) (h1 : f1 < 512) (h2 : f2 < 512) : ((lst (0 ^^^ f0 ^^^ f1 ^^^ f2)).count 45 : Int) = 9 - wsum (-2) ((chRows f0 f1 f2).map shRow) := by
  rw [lst_pc, wsum_eq h0 h1 h2]
  congr 1
  refine S9_congr fun i _ => ?_
  rw [bt_xor, bt_xor, bt_xor]
  have z : bt 0 i = 0 := by unfold bt; simp
  rw [z]
  rcases bt_cases f0 i with e0 | e0 <;> rcases bt_cases f1 i with e1 | e1 <;> rcases bt_cases f2 i with e2 | e2 <;> rw [e0, e1, e2] <;> decide
theorem pc_range (r : Nat) : 0 ≤ pc r ∧ pc r ≤ 9 := by
  have h : ∀ i, (0 : Int) ≤ (bt r i : Int) ∧ (bt r i : Int) ≤ 1 := fun i => by rcases bt_cases r i with e | e <;> rw [e] <;> decide
  unfold pc S9
  dsimp only
  have := h 0; have := h 1; have := h 2; have := h 3; have := h 4; have := h 5; have := h 6; have := h 7; have := h 8
  omega
theorem shRows_ok {f0 f1 f2 : Nat} (h0 : f0 < 512) (h1 : f1 < 512) (h2 : f2 < 512) : ∀ r ∈ (chRows f0 f1 f2).map shRow, 1 ≤ r.1 ∧ r.1 ≤ 3 ∧ Builtin.Int.intBits r.2 ≤ 64 := by
  rw [shRows_eq h0 h1 h2]
  have hb : ∀ n, Builtin.Int.intBits (pc n) ≤ 64 := fun n => intBits_le_64 (by have := (pc_range n).1; omega) (by have := (pc_range n).2; omega)
  intro r hr
  simp only [List.mem_cons, List.not_mem_nil, or_false] at hr
  rcases hr with rfl | rfl | rfl | rfl | rfl | rfl | rfl <;> exact ⟨by simp, by simp, hb _⟩
theorem intBits_le {x : Int} {k : Nat} (h : x.natAbs < 2 ^ k) : Builtin.Int.intBits x ≤ k := by
  unfold Builtin.Int.intBits
  by_cases h0 : x = 0
  · subst h0; exact Nat.zero_le _
  · have hx : (x == 0) = false := beq_eq_false_iff_ne.mpr h0
    rw [hx]
    have hn : x.natAbs ≠ 0 := by omega
    have := (Nat.log2_lt hn).mpr h
    simp only [Bool.false_eq_true, if_false]
    omega
theorem natAbs_lt_weight (i : Int) : i.natAbs < 2 ^ PyData.weight (.int i) := by
  unfold PyData.weight
  by_cases h0 : i = 0
  · subst h0; decide
  · have hx : (i == 0) = false := beq_eq_false_iff_ne.mpr h0
    rw [hx]
    simp only [Bool.false_eq_true, if_false]
    exact Nat.lt_log2_self
theorem sum_lt_weight : ∀ ns : List Int, ns.sum.natAbs < 2 ^ PyData.weightAll (ns.map PyData.int)
  | [] => by show (0 : Int).natAbs < _; unfold PyData.weightAll; decide
  | i :: r => by
    have h1 := natAbs_lt_weight i
    have h2 := sum_lt_weight r
    rw [List.map_cons, List.sum_cons]
    rw [show PyData.weightAll (PyData.int i :: r.map PyData.int) = PyData.weight (.int i) + 1 + PyData.weightAll (r.map PyData.int) from by rw [PyData.weightAll]]
    generalize PyData.weight (.int i) = a at *
    generalize PyData.weightAll (r.map PyData.int) = b at *
    have h3 : (i + r.sum).natAbs ≤ i.natAbs + r.sum.natAbs := Int.natAbs_add_le _ _
    have p1 : 2 ^ a ≤ 2 ^ (a + b) := Nat.pow_le_pow_right (by decide) (Nat.le_add_right _ _)
    have p2 : 2 ^ b ≤ 2 ^ (a + b) := Nat.pow_le_pow_right (by decide) (Nat.le_add_left _ _)
    have e : 2 ^ (a + 1 + b) = 2 ^ (a + b) * 2 := by rw [show a + 1 + b = (a + b) + 1 by omega, Nat.pow_succ]
    rw [e]
    omega
theorem weight_bits {ns : List Int} (hL : (PyData.list (List.map PyData.int ns)).layable0 = true) : Builtin.Int.intBits (3 + ns.sum) ≤ 2 ^ 24 ∧ Builtin.Int.intBits (3 + ns.sum + 1) ≤ 2 ^ 24 := by
  have hw : PyData.weightAll (ns.map PyData.int) ≤ 2 ^ 20 := by
    unfold PyData.layable0 at hL
    simp only [Bool.and_eq_true, decide_eq_true_eq] at hL
    have := hL.2
    rwa [PyData.weight] at this
  have h := sum_lt_weight ns
  generalize PyData.weightAll (ns.map PyData.int) = W at *
  have p3 : 2 ^ (W + 3) = 2 ^ W * 8 := by rw [Nat.pow_add]
  have p1 : 1 ≤ 2 ^ W := Nat.one_le_two_pow
  have a1 : (3 + ns.sum).natAbs < 2 ^ (W + 3) := by rw [p3]; omega
  have a2 : (3 + ns.sum + 1).natAbs < 2 ^ (W + 3) := by rw [p3]; omega
  have b1 := intBits_le a1
  have b2 := intBits_le a2
  omega
section
variable {prog : Program} {w : World} {A : Around} {E : Value → Shared → Prop} {s : Shared} {env : Env} {g : Heap} {target : Expr} {body : List Stmt} {Q : Flow → Shared → Prop}
theorem for_tupJ {l : Nat} {vs : List Value} {n : Nat} {base : List (Addr × Obj)} {ps : List (Str × Value)} (hb : (l, ({ cls := .type "tuple", data := .seq vs.toArray n } : Obj)) ∈ base)
    (hh : A.handled = none) {m : Str → Option Value} (F : Fr g env.locals s.heap m) (N : News g env.locals s.heap base) (hm : ∀ q ∈ ps, m q.1 = some q.2)
    (hE : PassesOwn (model prog w) A env E)
    (turn : ∀ v ∈ vs, ∀ I o h tk m, (o : Obj).cls = .type "tuple_iterator" → Fr g env.locals h (kstB m ps) → News g env.locals h ((I, o) :: base) → (∀ p ∈ base, p.1 ≠ I) → ∀ Qn : Flow → Shared → Prop,
      (∀ h' tk' m', Fr g env.locals h' m' → (∀ q ∈ ps, m' q.1 = some q.2) → News g env.locals h' ((I, o) :: base) → Qn .next { s with heap := h', toks := tk' }) →
      wpAny (model prog w) A (assign target env v) (fun _ s₂ => wpAny (model prog w) A (execs body env) Qn E s₂) E { s with heap := h, toks := tk })
    (fin : ∀ h tk m, Fr g env.locals h (kstB m ps) → News g env.locals h base → Q .next { s with heap := h, toks := tk }) :
    wpAny (model prog w) A (pyIter (.ref l)) (fun it s₂ => codeAny (model prog w) A (.forLoop target it body [] env) (fun r s' => match r with | .ok f => Q f s' | .error e => cameBackBy (model prog w) A env E e s') s₂) E s := by
  have hl : s.heap.IsTuple l vs.toArray := ⟨_, (N _ hb).1, rfl, n, rfl⟩
  have hI0 : g.get? s.heap.objs.size = none := ktu_new F (Nat.le_refl _)
  have hLI : env.locals ≠ s.heap.objs.size := Nat.ne_of_lt F.ns.lt
  have hoff : ∀ p ∈ base, p.1 ≠ s.heap.objs.size := fun p hp => Nat.ne_of_lt (Heap.lt_size (N p hp).1)
  refine wpAny_pyIter_tuple hl ?_
  refine codeAny_forLoop_any
    (fun k s' => ∃ h' tk m' i, s' = { s with heap := h', toks := tk } ∧ h'.IsTupleIter s.heap.objs.size l i ∧ (∀ q ∈ ps, m' q.1 = some q.2) ∧ Fr g env.locals h' m' ∧ News g env.locals h' base ∧ i ≤ vs.length ∧ k = vs.length - i) ?_ vs.length
    ⟨_, s.toks, m, 0, rfl, ⟨_, Heap.get?_push_size _ rfl, rfl, rfl⟩, hm, F.push _, N.pushKeep _, Nat.zero_le _, rfl⟩
  rintro k s' ⟨h', tk, m', i, rfl, hit, hm', F', N', hi, rfl⟩
  have hl' : h'.IsTuple l vs.toArray := ⟨_, (N' _ hb).1, rfl, n, rfl⟩
  have next : ∀ h₁ : Heap, Heap.ExtBut s.heap.objs.size h' h₁ → Fr g env.locals h₁ m' ∧ News g env.locals h₁ base := fun h₁ hk₁ =>
    ⟨⟨F'.ns.at' fun o e => hk₁ _ o hLI e, fun b o e => hk₁ b o (fun z => by rw [z, hI0] at e; cases e) (F'.keep b o e), F'.above⟩, fun p hp => ⟨hk₁ _ _ (hoff p hp) (N' p hp).1, (N' p hp).2⟩⟩
  by_cases hlt : i < vs.length
  · refine wpAny_pyNext_tuple_item hit hl' (x := vs[i]) (by simp [hlt]) fun h₁ hit₁ hs₁ => ?_
    refine letGo_tupleiter hit₁ ?_
    obtain ⟨F₁, N₁⟩ := next h₁ hs₁.extBut
    obtain ⟨o, ho, hc, hd⟩ := id hit₁
    have N₂ : News g env.locals h₁ ((s.heap.objs.size, o) :: base) := List.forall_mem_cons.mpr ⟨⟨ho, hLI.symm, hI0⟩, N₁⟩
    refine wpAny_mono (turn vs[i] (List.getElem_mem hlt) s.heap.objs.size o h₁ tk m' hc (fr_b F₁ hm') N₂ hoff (fun f s₃ => match f with
            | .next | .cont => ∃ k', k' < vs.length - i ∧ ∃ h' tk m' i, s₃ = { s with heap := h', toks := tk } ∧ h'.IsTupleIter s.heap.objs.size l i ∧ (∀ q ∈ ps, m' q.1 = some q.2) ∧ Fr g env.locals h' m' ∧ News g env.locals h' base ∧ i ≤ vs.length ∧ k' = vs.length - i
            | .brk => Q .next s₃
            | .ret v => Q (.ret v) s₃) fun h₂ tk₂ m₂ F₂ hm₂ N₃ => ?_) (fun _ s₂ z => wpAny_mono z (fun f s₃ y => y) hE) hE
    exact ⟨vs.length - (i + 1), by omega, h₂, tk₂, m₂, i + 1, rfl, ⟨o, (N₃ _ (.head _)).1, hc, hd⟩, hm₂, F₂, news_tl N₃, hlt, rfl⟩
  · have hie : i = vs.length := by omega
    subst hie
    refine wpAny_pyNext_tuple_end hh hit hl' (by simp) fun h₁ hk₁ => ?_
    obtain ⟨F₁, N₁⟩ := next h₁ hk₁
    exact wpAny_execs_nil (fin h₁ tk m' (fr_b F₁ hm') N₁)
end
theorem news_dup {h₀ h : Heap} {L : Addr} {q : Addr × Obj} {news : List (Addr × Obj)} (N : News h₀ L h news) (hm : q ∈ news) : News h₀ L h (q :: news) := List.forall_mem_cons.mpr ⟨N q hm, N⟩
theorem ne_known {prog : Program} {w : World} {A : Around} {E : Value → Shared → Prop} {s : Shared} {t u : Tok} {x y : Int} {Q : Value → Shared → Prop} (e : x = y) (h : Q (.bool false) s) : wpAny (model prog w) A (compareOp .NotEq (.int x t) (.int y u)) Q E s := by
  subst e
  refine PySem.P.ne_int ?_
  have e : (x != x) = false := by simp
  rw [e]; exact h
def WtOk (v : Value) : Prop := ∃ wt tw, v = .int wt tw ∧ Builtin.Int.intBits wt ≤ 2 ^ 24 ∧ Builtin.Int.intBits (wt + 1) ≤ 2 ^ 24
theorem wts_ok {ns : List Int} {a b c : Tok} (hL : (PyData.list (List.map PyData.int ns)).layable0 = true) : ∀ v ∈ [Value.int (3 + ns.sum) a, Value.int (-1) b, Value.int (-2) c], WtOk v := by
  have h := weight_bits hL
  intro v hv
  simp only [List.mem_cons, List.not_mem_nil, or_false] at hv
  rcases hv with rfl | rfl | rfl
  · exact ⟨_, _, rfl, h.1, h.2⟩
  · exact ⟨_, _, rfl, by decide, by decide⟩
  · exact ⟨_, _, rfl, by decide, by decide⟩
section
variable {prog : Program} {w : World} {A : Around} {E : Value → Shared → Prop} {s : Shared} {env : Env} {g : Heap} {target : Expr} {body : List Stmt} {Q : Flow → Shared → Prop}
abbrev oeP (a : Nat) (ta : Tok) (b : Nat) (tb : Tok) : List (Str × Value) := [(Str.ofString "either", .int (a : Int) ta), (Str.ofString "uneven", .int (b : Int) tb)]
theorem oe_iter {l : Nat} {f0 f1 f2 : Nat} {t0 t1 t2 te tu : Tok} {c : Nat} {base : List (Addr × Obj)} {ps : List (Str × Value)} (hb : (l, W.listOf [Value.int (f0 : Int) t0, .int (f1 : Int) t1, .int (f2 : Int) t2].toArray c) ∈ base)
    (hh : A.handled = none) {m : Str → Option Value} (F : Fr g env.locals s.heap m) (N : News g env.locals s.heap base) (hm : ∀ q ∈ ps, m q.1 = some q.2)
    (he : m (Str.ofString "either") = some (.int ((0 : Nat) : Int) te)) (hu : m (Str.ofString "uneven") = some (.int ((0 : Nat) : Int) tu))
    (hE : PassesOwn (model prog w) A env E)
    (turn : ∀ (f : Nat) (tf : Tok) (a b : Nat) (ta tb : Tok) I o h tk m, (o : Obj).cls = .type "list_iterator" → Fr g env.locals h (kstB (kstB m ps) (oeP a ta b tb)) → News g env.locals h ((I, o) :: base) → (∀ p ∈ base, p.1 ≠ I) → ∀ Qn : Flow → Shared → Prop,
      (∀ h' tk' m' ta' tb', Fr g env.locals h' m' → (∀ q ∈ ps, m' q.1 = some q.2) → m' (Str.ofString "either") = some (.int ((a ||| f : Nat) : Int) ta') → m' (Str.ofString "uneven") = some (.int ((b ^^^ f : Nat) : Int) tb') → News g env.locals h' ((I, o) :: base) → Qn .next { s with heap := h', toks := tk' }) →
      wpAny (model prog w) A (assign target env (.int (f : Int) tf)) (fun _ s₂ => wpAny (model prog w) A (execs body env) Qn E s₂) E { s with heap := h, toks := tk })
    (fin : ∀ h tk m ta tb, Fr g env.locals h (kstB (kstB m ps) (oeP (0 ||| f0 ||| f1 ||| f2) ta (0 ^^^ f0 ^^^ f1 ^^^ f2) tb)) → News g env.locals h base → Q .next { s with heap := h, toks := tk }) :
    wpAny (model prog w) A (pyIter (.ref l)) (fun it s₂ => codeAny (model prog w) A (.forLoop target it body [] env) (fun r s' => match r with | .ok f => Q f s' | .error e => cameBackBy (model prog w) A env E e s') s₂) E s := by
  refine for_listJ (fun i m nx => nx = base ∧ (∀ q ∈ ps, m q.1 = some q.2) ∧ (∃ te, m (Str.ofString "either") = some (.int ((([f0, f1, f2].take i).foldl (· ||| ·) 0 : Nat) : Int) te)) ∧ (∃ tu, m (Str.ofString "uneven") = some (.int ((([f0, f1, f2].take i).foldl (· ^^^ ·) 0 : Nat) : Int) tu))) (fun i m nx h => h.1 ▸ hb) hh F N ⟨rfl, hm, ⟨te, he⟩, ⟨tu, hu⟩⟩ hE ?_ ?_
  · rintro i v I o h tk m₁ nx hv ⟨rfl, hm₁, ⟨te₁, he₁⟩, ⟨tu₁, hu₁⟩⟩ ho F₁ N₁ hoff Qn ret
    have hi : i < 3 := (List.getElem?_eq_some_iff.mp hv).1
    have hf : ∃ f t, [f0, f1, f2][i]? = some f ∧ v = .int (f : Int) t := by
      have : i = 0 ∨ i = 1 ∨ i = 2 := by omega
      rcases this with rfl | rfl | rfl <;> (simp at hv; subst hv; exact ⟨_, _, rfl, rfl⟩)
    obtain ⟨f, tf, hf, rfl⟩ := hf
    have F₂ := fr_b2 (qs := oeP (([f0, f1, f2].take i).foldl (· ||| ·) 0) te₁ (([f0, f1, f2].take i).foldl (· ^^^ ·) 0) tu₁) F₁ hm₁ (by
      intro q hq
      simp only [oeP, List.mem_cons, List.not_mem_nil, or_false] at hq
      rcases hq with rfl | rfl
      · exact he₁
      · exact hu₁)
    have tke : [f0, f1, f2].take (i + 1) = [f0, f1, f2].take i ++ [f] := by rw [List.take_add_one, hf]; rfl
    refine turn f tf _ _ te₁ tu₁ I o h tk m₁ ho F₂ N₁ hoff Qn fun h' tk' m' ta' tb' F' hm' ha' hb' N' => ?_
    refine ret h' tk' m' _ F' ⟨rfl, hm', ⟨ta', ?_⟩, ⟨tb', ?_⟩⟩ N' hoff
    · rw [tke, List.foldl_append]; exact ha'
    · rw [tke, List.foldl_append]; exact hb'
  · rintro h tk m₁ nx ⟨rfl, hm₁, ⟨te₁, he₁⟩, ⟨tu₁, hu₁⟩⟩ F₁ N₁
    refine fin h tk m₁ te₁ tu₁ (fr_b2 F₁ hm₁ (by
      intro q hq
      simp only [oeP, List.mem_cons, List.not_mem_nil, or_false] at hq
      rcases hq with rfl | rfl
      · exact he₁
      · exact hu₁)) N₁
end
theorem lt_or {a b : Nat} (h1 : a < 512) (h2 : b < 512) : a ||| b < 512 := Nat.or_lt_two_pow (n := 9) h1 h2
theorem lt_xor {a b : Nat} (h1 : a < 512) (h2 : b < 512) : a ^^^ b < 512 := Nat.xor_lt_two_pow (n := 9) h1 h2
section
variable {prog : Program} {w : World} {A : Around} {E : Value → Shared → Prop} {s : Shared} {h₀ : Heap} {L : Addr} {m : Str → Option Value} {env : Env}
abbrev tupR (its : Array Value) (n : Nat) : Obj := { cls := .type "tuple", data := .seq its n }
def TupSrc (prog : Program) (w : World) (A : Around) (h₀ : Heap) (L : Addr) (m : Str → Option Value) (env : Env) (elt : Expr) (x : Str) (scope : Scope) (cl : List (Str × Addr)) (Fin : Shared → List Value → List (Addr × Obj) → Prop) (xv : Value) (s₁ : Shared) : Prop :=
  ∃ ax its n news, xv = .ref ax ∧ A.handled = none ∧ Fr h₀ L s₁.heap m ∧ News h₀ L s₁.heap news ∧ (ax, tupR its n) ∈ news ∧ its.size ≤ sizeLine ∧
    ∀ g : Heap, LCg.CompRest prog w A h₀ L m env elt x scope cl { s₁ with heap := g } (fun nw => (ax, tupR its n) ∈ nw) (fun i v => its[i]? = some v) (Fin { s₁ with heap := g }) its.size 0 [] news
theorem TupSrc.mk' {elt : Expr} {x : Str} {scope : Scope} {cl : List (Str × Addr)} {Fin : Shared → List Value → List (Addr × Obj) → Prop} {ax : Addr} {its : Array Value} {n : Nat} {news : List (Addr × Obj)} {s₁ : Shared}
    (hh : A.handled = none) (F : Fr h₀ L s₁.heap m) (N : News h₀ L s₁.heap news) (hm : (ax, tupR its n) ∈ news) (hsz : its.size ≤ sizeLine)
    (h : ∀ g : Heap, LCg.CompRest prog w A h₀ L m env elt x scope cl { s₁ with heap := g } (fun nw => (ax, tupR its n) ∈ nw) (fun i v => its[i]? = some v) (Fin { s₁ with heap := g }) its.size 0 [] news) :
    TupSrc prog w A h₀ L m env elt x scope cl Fin (.ref ax) s₁ := ⟨ax, its, n, news, rfl, hh, F, N, hm, hsz, h⟩
theorem lc_tup {elt iter : Expr} {x y : Str} {px py : Pos} {scope : Scope} {cl : List (Str × Addr)} {pos spos : Pos} {Q : Flow → Shared → Prop} (_F₀ : Fr h₀ L s.heap m) (hLe : env.locals = L)
    (hsw : swapsWith (.ListComp elt [⟨.Name x px, iter, [], 0⟩] scope pos) (some (.Name y py)) spos.line env = pure true)
    (hclos : closureFor scope env = pure cl) (hcell : ∀ z ∈ scope.names, z.2 ≠ .cell) (hkind : scope.kind = .function)
    (hnames : ∀ z ∈ scope.names, z.2 = .local → scope.names.lookup z.1 = some .local) (hx : scope.names.lookup x = some .local)
    (hy : env.kindOf y = some .local) (hp : (env.scope.kind == .class || (env.scope.kind == .module && env.locals != env.globals)) = false)
    (h : wpAny (model prog w) A (eval iter env) (TupSrc prog w A h₀ L m env elt x scope cl (fun s₂ => LCg.FinA h₀ L m s₂ y Q)) E s)
    (hs : ∀ x, foldedSetIterable iter env x = pure x) :
    wpAny (model prog w) A (exec (.Assign [.Name y py] (.ListComp elt [⟨.Name x px, iter, [], 0⟩] scope pos) spos) env) Q E s := by
  subst hLe
  rw [exec_Assign_Name_used _ _ _ _ hsw]
  refine wpAny_bind (wpAny_standAt (wpAny_bind ?_))
  show wpAny _ A (do let _ ← comprehension (.ListComp elt [⟨.Name x px, iter, [], 0⟩] scope pos) scope env _ (newList []) false (eval iter env) (some (assign (.Name y py) env))) _ _ s
  refine wpAny_bind (wpAny_mono (Q := fun _ s' => Q .next s') ?key (fun _ s' hq => wpAny_pure (wpAny_pure hq)) fun _ _ e => e)
  case key =>
    refine wpAny_comprehension_free (use := some (assign (.Name y py) env)) (Q := fun _ s' => Q .next s') rfl hs hclos hkind hnames (wpAny_mono h (fun xv s₁ h₁ => ?_) fun _ _ e => e)
    obtain ⟨ax, its, n, news, rfl, hh, F, N, hm, hsz, R⟩ := h₁
    have hl : s₁.heap.IsTuple ax its := ⟨_, (N _ hm).1, rfl, n, rfl⟩
    have hlt : ax < s₁.heap.objs.size := Heap.lt_size (N _ hm).1
    have up : ∀ b o, s₁.heap.get? b = some o → (s₁.heap.push { cls := .type "tuple_iterator", data := .fields #[.ref ax, .int 0 0] }).get? b = some o := fun b o e => Heap.get?_push_of_some _ e
    refine wpAny_pyIter_tuple hl ?_
    refine LCg.block_U (S := fun nw => (ax, tupR its n) ∈ nw) (Walks.tuple hh s₁.heap.objs.size ax (Nat.ne_of_lt hlt) its) hsz (fun i h st => by obtain ⟨o, e, _⟩ := st.1; exact ⟨o, e⟩) ?_ hcell hkind hx ⟨⟨_, Heap.get?_push_size _ rfl, rfl, rfl⟩, ⟨_, up _ _ (N _ hm).1, rfl, n, rfl⟩⟩ ?_
      (F.keeps up) (N.grown up) (Nat.ne_of_lt F.ns.lt) (ktu_new F (Nat.le_refl _)) (fun p hp => Nat.ne_of_lt (Heap.lt_size (N p hp).1)) hm (R _) ?_
    · rintro i h h' o nw ⟨⟨o', q, r⟩, -⟩ e e' hk N' hm'
      rw [e] at q
      cases q
      exact ⟨⟨o, e', r⟩, ⟨_, (N' _ hm').1, rfl, n, rfl⟩⟩
    · intro b hb
      rw [Heap.size_push]
      have hb' : b = s₁.heap.objs.size ∨ b = ax := by simpa using hb
      rcases hb' with rfl | rfl
      · exact Nat.lt_succ_self _
      · exact Nat.lt_succ_of_lt hlt
    · intro D C h' tk m' ys news' F' N' o1 hn hC₀ hD₀ hCL hDL hCD offC fin
      have hL₀ : h₀.get? env.locals = none := Heap.get?_none_of_le F'.above
      show wpAny _ A (assign (.Name y py) env (.ref D)) _ _ _
      refine wpAny_assign_Name (wpAny_storeName_local hy F'.ns (fun h₂ hn₂ hs₂ => ?_) hp)
      have F₂ : Fr h₀ env.locals h₂ (fun z => if z = y then some (.ref D) else m z) :=
        ⟨hn₂, fun b o e => hs₂.extBut b o (fun q => by rw [q, hL₀] at e; cases e) (F'.keep b o e), F'.above⟩
      refine ⟨m', hn.sameBut hs₂ hCL, fun h'' hs'' => fin D h'' _ (F₂.change hs'' hCL hC₀) (fun p hp => ?_) o1⟩
      have hpC : p.1 ≠ C := by
        rcases List.mem_cons.mp hp with rfl | hp
        · exact Ne.symm hCD
        · exact offC p hp
      exact ⟨hs''.extBut _ _ hpC (hs₂.extBut _ _ (N' p hp).2.1 (N' p hp).1), (N' p hp).2⟩
end
local macro_rules | `(tactic| walk_at "call builtin:sum") => `(tactic| (k_here; (with_reducible show wpAny _ _ (call (Value.builtin "sum") [Value.ref _]) _ _ _); k_dflt (refine' sum_pick ?zh ?zF ?zN ?zm ?zi ?_; (case zh => with_unfolding_all rfl); (case zF => k_asm); (case zN => k_asm); (case zm => k_mem); (case zi => assumption)); intro h' tk' t' F' N'))
local macro_rules | `(tactic| walk_at "binaryOp Mod int int") => `(tactic| (k_here; (with_reducible refine' mod512_x ?_)))
local macro_rules | `(tactic| walk_at "binaryOp BitOr int int") => `(tactic| (k_here; (with_reducible refine' or_nat ?_)))
local macro_rules | `(tactic| walk_at "binaryOp BitXor int int") => `(tactic| (k_here; (with_reducible refine' xor_nat ?_)))
local macro_rules | `(tactic| walk_at "call ref") => `(tactic| (k_here; k_dflt ((with_reducible show wpAny _ _ (call (Value.ref 841) _ _) _ _ _); refine' c_listing ?zB ?zF ?zX ?zN ?zT ?zr ?zd ?zu ?_; (case zB => k_asm); (case zF => k_asm); (case zX => k_asm); (case zN => k_asm); (case zT => k_asm); (case zr => assumption); (case zd => k_room); (case zu => ktr_units); k_whole; intro t' h' tk' hpos' F' N'; (try k_sweep))))
local macro_rules | `(tactic| walk_at "call ref") => `(tactic| (k_here; k_dflt ((with_reducible show wpAny _ _ (call (Value.ref 771) _ _) _ _ _); refine' c_shlexL ?zB ?zF ?zX ?zN ?zT ?zc ?zd ?zu ?_; (case zB => k_asm); (case zF => k_asm); (case zX => k_asm); (case zN => k_asm); (case zT => k_asm); (case zc => exact lst_ch _); (case zd => k_room); (case zu => ktr_units); k_whole; intro x' dx' io' di' pb' fs' t1' t2' t3' tn' tb' T1' nx' h' tk' F' N' hL' n0' o1' o2' o3' o4' o5')))
local macro_rules | `(tactic| walk_at "call type:list") => `(tactic| (k_here; k_dflt (refine' c_listM ?zr ?zB ?zF ?zX ?zN ?zT ?zL ?zk ?o1 ?o2 ?o3 ?o4 ?o5 ?n0 ?zd ?zu ?_; (case zr => assumption); (case zB => k_asm); (case zF => k_asm); (case zX => k_asm); (case zN => k_asm); (case zT => k_asm); (case zL => assumption); (case zk => first | exact Nat.le_refl _ | ((try dsimp only); omega)); (case o1 => assumption); (case o2 => assumption); (case o3 => assumption); (case o4 => assumption); (case o5 => assumption); (case n0 => assumption); (case zd => k_room); (case zu => ktr_units); k_whole; intro S' vs' c' h' tk' hq' hle' F' N' l1; (try dsimp only at hle'); (try k_lt l1))))
local macro_rules | `(tactic| walk_at "call ref") => `(tactic| (k_here; k_dflt ((with_reducible show wpAny _ _ (call (Value.ref 829) _ _) _ _ _); refine' c_dueM ?zB ?zF ?zX ?zN ?zT ?zr ?zd ?zu ?_; (case zB => k_asm); (case zF => k_asm); (case zX => k_asm); (case zN => k_asm); (case zT => k_asm); (case zr => assumption); (case zd => k_room); (case zu => ktr_units); k_whole; intro S' vs' c' h' tk' hle' hq' F' N' l1; (try dsimp only at hle'); (try k_lt l1); (try k_sweep))))
local macro_rules | `(tactic| walk_at "compareOp NotEq ref ref") => `(tactic| (k_here; k_dflt (refine' ne_toks (r := ?zr) ?zh (News.isList ?zN ?zM) ?zv (News.isList ?zN2 ?zM2) ?zv2 ?zu ?_; (case zN => k_asm); (case zM => k_mem); (case zN2 => k_asm); (case zM2 => k_mem); (case zv => exact StrsP.toQ (by assumption)); (case zv2 => assumption); (case zh => assumption); (case zu => ktr_units))))
local macro_rules | `(tactic| walk_at "call ref") => `(tactic| (k_here; k_dflt ((with_reducible show wpAny _ _ (call (Value.ref 81) [Value.ref _, _] _) _ _ _); refine' c_countL ?zB ?zF ?zX ?zN ?zS ?zT ?zq ?zz ?zu ?zv ?zd ?zw ?_; (case zB => k_asm); (case zF => k_asm); (case zX => k_asm); (case zN => k_asm); (case zS => k_mem); (case zT => k_asm); (case zq => exact StrsP.up (by assumption) (LeT.out (by walk_at "tb"))); (case zz => exact lex_len ⟨_, by assumption⟩); (case zu => exact Nat.lt_succ_self _); (case zv => ((try dsimp only); walk_at "tb")); (case zd => k_room); (case zw => ktr_units); k_whole; intro t' h' tk' F' N'; (try k_sweep))))
local macro_rules | `(tactic| walk_at "call ref") => `(tactic| (k_here; k_dflt ((with_reducible show wpAny _ _ (call (Value.ref 81) [Value.str _ _, _] _) _ _ _); refine' c_countS ?zB ?zF ?zX ?zN ?zT ?zz ?zl ?zu ?zv ?zd ?zw ?_; (case zB => k_asm); (case zF => k_asm); (case zX => k_asm); (case zN => k_asm); (case zT => k_asm); (case zz => exact Nat.le_of_ble_eq_true rfl); (case zl => exact lst_ch _); (case zu => exact Nat.lt_succ_self _); (case zv => ((try dsimp only); walk_at "tb")); (case zd => k_room); (case zw => ktr_units); k_whole; intro t' h' tk' F' N'; (try k_sweep))))
local macro_rules | `(tactic| walk_at "call ref") => `(tactic| (k_here; k_dflt ((with_reducible show wpAny _ _ (call (Value.ref 848) _ _) _ _ _); refine' c_weighed ?zB ?zF ?zX ?zN ?zS ?zR ?zT ?zr ?zb ?zd ?zu ?_; (case zB => k_asm); (case zF => k_asm); (case zX => k_asm); (case zN => k_asm); (case zS => k_mem); (case zR => exact RowsIn.mono (by assumption) (fun p hp => by repeat (first | exact hp | apply List.Mem.tail))); (case zT => k_asm); (case zr => exact shRows_ok (by assumption) (by assumption) (by assumption)); (case zb => first | assumption | exact Nat.le_of_ble_eq_true rfl); (case zd => k_room); (case zu => ktr_units); k_whole; intro t' h' tk' F' N'; (try k_sweep))))
local macro_rules | `(tactic| walk_at "call ref") => `(tactic| (k_here; k_dflt ((with_reducible show wpAny _ _ (call (Value.ref 853) _ _) _ _ _); refine' c_powers ?zB ?zF ?zX (news_dup ?zN ?zM) ?zT ?zb ?zd ?zu ?_; (case zB => k_asm); (case zF => k_asm); (case zX => k_asm); (case zN => k_asm); (case zM => k_mem); (case zT => k_asm); (case zb => assumption); (case zd => k_room); (case zu => ktr_units); k_whole; intro t' h' tk' F' N'; (replace N' := news_tl N'); (try k_sweep))))
local macro_rules | `(tactic| walk_at "compareOp NotEq int int") => `(tactic| (k_here; k_dflt (refine' ne_known (law_eq (by assumption) (by assumption) (by assumption) _) ?_)))
local macro_rules | `(tactic| walk_at "exec Assign cons ListComp") => `(tactic| (k_here; (with_reducible show wpAny _ _ (exec (Stmt.Assign _ (Expr.ListComp (Expr.Call (Expr.Name (Str.ofString "countOf") _) _ _ _) _ _ _) _) _) _ _ _); k_dflt (refine' lc_tup ?z0 ?z1 ?z2 ?z3 ?z4 ?z5 ?z6 ?z7 ?z8 ?z9 ?_ ?zs; (case z0 => k_asm); (case z1 => rfl); (case z2 => with_unfolding_all rfl); (case z3 => with_unfolding_all rfl); (case z4 => decide); (case z5 => rfl); (case z6 => decide); (case z7 => rfl); (case z8 => rfl); (case z9 => rfl); (case zs => (intro _; with_unfolding_all rfl)))))
local macro_rules | `(tactic| walk_at "TupSrc") => `(tactic| (k_here; k_dflt (refine' TupSrc.mk' ?zh ?zF ?zN ?zm ?zz ?_; (case zh => with_unfolding_all rfl); (case zF => k_asm); (case zN => k_asm); (case zm => k_mem); (case zz => exact Nat.le_of_ble_eq_true rfl); intro g')))
local macro_rules | `(tactic| walk_at "CompEnd") => `(tactic| (k_here; k_dflt (refine' compEnd_same ?F ?N ?o ?zs ?_; (case F => k_asm); (case N => k_asm); (case o => assumption); (case zs => first | lcg_src | k_mem))))
theorem main_holds : PySem.Challenge.rw_kt0074_01.Holds := hd (by
  k_go0
  (all_goals try k_fold)
  repeat' (first | (k_unfold; (try dsimp only)) | ((fail_if_success (with_reducible show wpAny _ _ (exec (Stmt.For _ _ _ _ _) _) _ _ _)); first | walk1 | (dsimp only; walk1)))
  obtain ⟨f0, f1, f2, t0, t1, t2, hys, b0, b1, b2⟩ := ints3 (by assumption) (by decide)
  subst hys
  refine' PySem.wpAny_For ?_ ?zs
  case zs => intro _; with_unfolding_all rfl
  repeat' (first | (k_unfold; (try dsimp only)) | ((fail_if_success (with_reducible show wpAny _ _ (call (Value.ref 834) _) _ _ _)); first | walk1 | (dsimp only; walk1)))
  k_here
  k_dflt (refine' c_choices ?zB ?zF ?zX (news_sw2 ?zN) ?zT ?zn ?zd ?zu ?_)
  case zB => k_asm
  case zF => k_asm
  case zX => k_asm
  case zN => k_asm
  case zT => k_asm
  case zn => exact List.forall_mem_cons.mpr ⟨by k_ne, List.forall_mem_cons.mpr ⟨by k_ne, List.forall_mem_cons.mpr ⟨by k_ne, List.forall_mem_cons.mpr ⟨by k_ne, fun _ h => nomatch h⟩⟩⟩⟩
  case zd => k_room
  case zu => ktr_units
  k_whole
  intro R vs c' tups h' tk' F1 N1 hR ht hRn hSR
  refine' ml_iter (ps := [(Str.ofString "shown", .ref _), (Str.ofString "folders", .ref _)]) hR (chRows_nat b0 b1 b2) ?yz (List.Mem.head _) ?yt ?yb ?yh ?yF (news_ml0 ?yN) ?ym ?yE ?yT ?yfin
  case yz => exact Nat.le_of_ble_eq_true rfl
  case yF => k_asm
  case yN => k_asm
  case yt => exact fun q hq => .tail _ (.tail _ (List.mem_append_left _ hq))
  case yh => with_unfolding_all rfl
  case yE => passes_own
  case ym => intro q hq; simp only [List.mem_cons, List.not_mem_nil, or_false] at hq; rcases hq with rfl | rfl <;> rfl
  case yb => exact ml_base (fun e => hRn _ (.head _) e.symm) (by k_ne) (fun q hq => (ht q hq).1 _ (.head _)) (List.forall_mem_cons.mpr ⟨by k_ne, List.forall_mem_cons.mpr ⟨by k_ne, List.forall_mem_cons.mpr ⟨by k_ne, fun _ h => nomatch h⟩⟩⟩)
  case yT =>
    intro Qn I o h tk m ws c rest a r p ta tb hr ho F2 N2 hwl hsh hI q1 q2 q3 ret'
    k_steps
    refine' ret' _ _ _ _ _ _ _ ?xF ?xm ?xN ?x1 ?x2
    case xF => k_asm
    case xN => exact news_mlE (by k_asm)
    case xm => intro q hq; simp only [List.mem_cons, List.not_mem_nil, or_false] at hq; rcases hq with rfl | rfl <;> rfl
    case x1 => k_ne
    case x2 => k_ne
  case yfin =>
    intro h tk m ws c rest F2 N2 hW hk hsh
    have m1 := hk _ (.tail _ (.tail _ (List.mem_append_right tups (.tail _ (.tail _ (.head _))))))
    have m2 := hk _ (.tail _ (.head _))
    have N3 : News _ _ h (_ :: _ :: _ :: rest) := List.forall_mem_cons.mpr ⟨N2 _ (.tail _ m1), List.forall_mem_cons.mpr ⟨N2 _ (.tail _ m2), N2⟩⟩
    clear N2
    (try k_unfold)
    (try dsimp only)
    repeat' (first | (k_unfold; (try dsimp only)) | ((fail_if_success (with_reducible show wpAny _ _ (exec (Stmt.For _ _ _ _ _) _) _ _ _)); first | walk1 | (dsimp only; walk1)))
    refine' PySem.wpAny_For ?_ ?zs
    case zs => intro _; with_unfolding_all rfl
    repeat' (first | (k_unfold; (try dsimp only)) | ((fail_if_success (with_reducible show wpAny _ _ (pyIter _) _ _ _)); first | walk1 | (dsimp only; walk1)))
    refine' for_tupJ (ps := [(Str.ofString "shown", .ref _), (Str.ofString "folders", .ref _)]) (List.Mem.head _) ?xh ?xF ?xN ?xm ?xE ?xT ?xfin
    case xN => k_asm
    case xF => k_asm
    case xh => with_unfolding_all rfl
    case xE => passes_own
    case xm => intro q hq; simp only [List.mem_cons, List.not_mem_nil, or_false] at hq; rcases hq with rfl | rfl <;> rfl
    case xT =>
      intro v hv I o h tk m ho F4 N4 hoff Qn ret'
      obtain ⟨wt, tw, rfl, b3, b4⟩ := wts_ok (by assumption) v hv
      k_steps
      refine' ret' _ _ _ ?wF ?wm ?wN
      case wF => k_asm
      case wN => k_asm
      case wm => intro q hq; simp only [List.mem_cons, List.not_mem_nil, or_false] at hq; rcases hq with rfl | rfl <;> rfl
    case xfin =>
      intro h tk m F4 N4
      (try k_unfold)
      (try dsimp only)
      repeat' (first | (k_unfold; (try dsimp only)) | ((fail_if_success (with_reducible show wpAny _ _ (exec (Stmt.For _ _ _ _ _) _) _ _ _)); first | walk1 | (dsimp only; walk1)))
      refine' PySem.wpAny_For ?_ ?zs
      case zs => intro _; with_unfolding_all rfl
      repeat' (first | (k_unfold; (try dsimp only)) | ((fail_if_success (with_reducible show wpAny _ _ (pyIter _) _ _ _)); first | walk1 | (dsimp only; walk1)))
      refine' oe_iter (ps := [(Str.ofString "shown", .ref _), (Str.ofString "folders", .ref _)]) ?vb ?vh ?vF ?vN ?vm ?ve ?vu ?vE ?vT ?vfin
      case vN => k_asm
      case vF => k_asm
      case vb => k_mem
      case vh => with_unfolding_all rfl
      case vE => passes_own
      case vm => intro q hq; simp only [List.mem_cons, List.not_mem_nil, or_false] at hq; rcases hq with rfl | rfl <;> rfl
      case ve => rfl
      case vu => rfl
      case vT =>
        intro f tf a b ta tb I o h tk m ho F5 N5 hoff Qn ret'
        k_steps
        refine' ret' _ _ _ _ _ ?uF ?um ?ua ?ub ?uN
        case uF => k_asm
        case um => intro q hq; simp only [List.mem_cons, List.not_mem_nil, or_false] at hq; rcases hq with rfl | rfl <;> rfl
        case ua => rfl
        case ub => rfl
        case uN => first | k_asm | exact news_tl (by k_asm)
      case vfin =>
        intro h tk m ta tb F5 N5
        have c1 := lt_or (lt_or (lt_or (show 0 < 512 by decide) b0) b1) b2
        have c2 := lt_xor (lt_xor (lt_xor (show 0 < 512 by decide) b0) b1) b2
        have e1 := law_or b0 b1 b2
        have e2 := law_xor b0 b1 b2
        generalize 0 ||| f0 ||| f1 ||| f2 = g1 at F5 c1 e1
        generalize 0 ^^^ f0 ^^^ f1 ^^^ f2 = g2 at F5 c2 e2
        (try k_unfold)
        (try dsimp only)
        k_steps)
end Mine
theorem PySem.Challenge.cw_kt0074_01_holds : PySem.Challenge.rw_kt0074_01.Holds :=
  Mine.main_holds
