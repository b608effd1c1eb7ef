import PyProof.Rows.All
import Wide.All
import OpenK.AllK
import Wide.FinOn
import Lean
import PySem.Challenge.RW_br0031_01
set_option Elab.async false
set_option linter.unusedVariables false

-- HdA
namespace Mine
open PySem PySem.W PyProof.Rows
set_option maxRecDepth 100000 in
set_option maxHeartbeats 8000000 in
open_top hd for PySem.Challenge.rw_br0031_01

end Mine

-- MSet
namespace Mine
open PySem PySem.W PySem.Calls PyProof.Rows PySem.Spec
set_option maxRecDepth 100000
section
variable {prog : Program} {w : World} {A : Around} {R : Result → Shared → Prop} {s : Shared} {E : Value → Shared → Prop}

theorem setOf_at {h h' : Heap} {a : Addr} {S : Str → Bool} {n : Nat} (hS : h.SetOf (strKind prog w) a S n) (e : ∀ o, h.get? a = some o → h'.get? a = some o) : h'.SetOf (strKind prog w) a S n := by
  obtain ⟨o, es, ep, tb, ho, rest⟩ := hS
  exact ⟨o, es, ep, tb, e _ ho, rest⟩

theorem upd_step {I S : Addr} {fp wr : List Addr} {n i : Nat} {P : Nat → Value → Prop} {St : Nat → Heap → Prop} {x : Str} {f : Str → Bool} {c : Nat}
    (W : Walks prog w A.in1 I fp wr n P St) (hSf : S ∉ fp) (hi : i < n) (hst : St i s.heap) (hv : ∀ v, P i v → ∃ t, v = .str x t) (hS : s.heap.SetOf (strKind prog w) S f c) (hb : c + 1 < scanBound)
    (next : ∀ h' tk, (∀ b o, b ∉ wr → b ≠ S → s.heap.get? b = some o → h'.get? b = some o) → St (i + 1) h' → h'.SetOf (strKind prog w) S (fun k' => f k' || decide (k' = x)) (if f x then c else c + 1) →
      codeAny (model prog w) A (.builtin "set.update.loop" ⟨[.ref S, .ref I], []⟩) R { s with heap := h', toks := tk }) :
    codeAny (model prog w) A (.builtin "set.update.loop" ⟨[.ref S, .ref I], []⟩) R s := by
  have hSw : S ∉ wr := fun h => hSf (W.sub _ h)
  refine codeAny_builtin F.entry_set_update_loop ?_
  rw [Around.under_plainId F.plain_set_update_loop _]
  show wpAny _ A.in1 (pyNext (.ref I) >>= _) _ _ s
  refine wpAny_bind (W.item i s _ _ hi hst fun v h₁ tk₁ hP hst₁ hk₁ => ?_)
  obtain ⟨t, rfl⟩ := hv v hP
  have hS₁ : h₁.SetOf (strKind prog w) S f c := by
    obtain ⟨o, es, ep, tb, ho, rest⟩ := hS
    exact ⟨o, es, ep, tb, hk₁ S _ hSw ho, rest⟩
  show wpAny _ A.in1 (holding [Value.str x t] (setAdd S (.str x t)) >>= _) _ _ _
  refine wpAny_bind (wpAny_holding ?_)
  unfold setAdd
  refine wpAny_holding ?_
  have hk : (strKind prog w).is x (.str x t) = true := strKind_is prog w x t
  refine wpAny_bind ((strKind prog w).pyHash (k := x) hk ?_)
  refine wpAny_setAddHashed_of (knd := strKind prog w) hk rfl hS₁ hb fun h₂ hsb hS₂ => ?_
  refine wpAny_pure ⟨plainId_quiet F.plain_set_update_loop _, next h₂ _ (fun b o hb1 hb2 e => ?_) (W.frame _ _ _ hst₁ fun b hb o e => ?_) hS₂⟩
  · exact (hsb.2 b hb2).trans (hk₁ b o hb1 e)
  · exact (hsb.2 b fun h : b = S => hSf (by rw [← h]; exact hb)).trans e

theorem upd_done {I S : Addr} {fp wr : List Addr} {n : Nat} {P : Nat → Value → Prop} {St : Nat → Heap → Prop}
    (W : Walks prog w A.in1 I fp wr n P St) (hst : St n s.heap)
    (next : ∀ h' tk, (∀ b o, b ∉ wr → s.heap.get? b = some o → h'.get? b = some o) → R (.ok (.ret .none)) { s with heap := h', toks := tk }) :
    codeAny (model prog w) A (.builtin "set.update.loop" ⟨[.ref S, .ref I], []⟩) R s := by
  refine codeAny_builtin F.entry_set_update_loop ?_
  rw [Around.under_plainId F.plain_set_update_loop _]
  show wpAny _ A.in1 (pyNext (.ref I) >>= _) _ _ s
  refine wpAny_bind (W.done s _ _ hst fun h₁ tk₁ hk₁ => ?_)
  show wpAny _ A.in1 (ret Value.none) _ _ _
  exact wpAny_pure (next h₁ tk₁ hk₁)

theorem sub_tuple_set : isSubtype (.type "tuple") (.type "set") = pure false := by rw [isSubtype_type]; kernel_rfl
theorem sub_tuple_frozenset : isSubtype (.type "tuple") (.type "frozenset") = pure false := by rw [isSubtype_type]; kernel_rfl

set_option maxHeartbeats 3200000 in
/-- `set(t)` of a tuple of two texts -/
theorem set_pair {D : Addr} {x y : Str} {tx ty : Tok} {nt : Nat} {Q : Value → Shared → Prop} (hh : A.handled = none)
    (hD : s.heap.get? D = some { cls := .type "tuple", data := .seq #[.str x tx, .str y ty] nt })
    (h : ∀ h' tk, (∀ b o, b < s.heap.objs.size → s.heap.get? b = some o → h'.get? b = some o) →
      h'.SetOf (strKind prog w) s.heap.objs.size (fun k => (false || decide (k = x)) || decide (k = y)) (if (false || decide (y = x)) = true then 1 else 2) →
      Q (.ref s.heap.objs.size) { s with heap := h', toks := tk }) :
    wpAny (model prog w) A (call (.type "set") [.ref D]) Q E s := by
  obtain ⟨c, tl, hmro⟩ := F.called_set.mro
  have hmade := F.called_set.made
  have hsub := F.called_set.sub
  refine wpAny_call (codeAny_of_tree ?_)
  show wpAny _ _ (callAny (.type "set") _) _ _ _
  refine wpAny_pure ⟨Code.quiet_builtin _ (by decide +kernel), codeAny_builtin F.entry_type_call ?_⟩
  rw [Around.under_plain (weight_type_call_type "set" [.ref D] []) rfl]
  have h1 := F.called_set.notType
  have h2 := F.called_set.canCreate
  have hct := F.typeCall_set_1 (.ref D)
  repeat (any_goals (first | assumption | wp_step))
  refine codeAny_mono (code_set_new_1 (.ref D) (E := E) (Q₁ := fun obj s₁ => ∃ led : Bool, obj = .ref s.heap.objs.size ∧ s₁ = { s with heap := s.heap.push { cls := .type "set", dict := none, data := .set #[] 0 (.fresh 0 0 led) } }) fun led => ⟨led, rfl, rfl⟩) fun r s₁ hr => ?_
  cases r with
  | error e => exact hr
  | ok fl =>
    cases fl with
    | ret obj =>
      obtain ⟨led, rfl, rfl⟩ := hr
      have hS : (s.heap.push { cls := .type "set", dict := none, data := .set #[] 0 (.fresh 0 0 led) }).get? s.heap.objs.size = some { cls := .type "set", dict := none, data := .set #[] 0 (.fresh 0 0 led) } := Heap.get?_push_size _ rfl
      have hT : Shared.TypeIs { s with heap := s.heap.push { cls := .type "set", dict := none, data := .set #[] 0 (.fresh 0 0 led) } } (.ref s.heap.objs.size) "set" := ⟨_, hS, rfl⟩
      have hli := F.called_set.init.lookup
      have hbi := F.called_set.init.bind (.ref s.heap.objs.size)
      repeat (any_goals (first | assumption | wp_step))
      refine codeAny_mono (codeAny_call_builtin (R := wants (fun r s₂ => r = .none ∧ ∃ h' tk, s₂ = { s with heap := h', toks := tk } ∧
          h'.SetOf (strKind prog w) s.heap.objs.size (fun k => (false || decide (k = x)) || decide (k = y)) (if (false || decide (y = x)) = true then 1 else 2) ∧
          (∀ b o, b < s.heap.objs.size → s.heap.get? b = some o → h'.get? b = some o)) E) F.called_set.init.plain F.entry_set_init (check_set_init_1 hT ?_)) fun r₂ s₂ hr₂ => ?_
      · have hlS : D < s.heap.objs.size := Heap.lt_size hD
        have hD' : (s.heap.push { cls := .type "set", dict := none, data := .set #[] 0 (.fresh 0 0 led) }).get? D = some { cls := .type "tuple", dict := none, data := .seq #[.str x tx, .str y ty] nt } := Heap.get?_push_of_some _ hD
        have hsls := sub_tuple_set
        have hslf := sub_tuple_frozenset
        have hne : (Value.type "tuple" == Value.type "dict") = false := by decide
        have hl1 : (s.heap.push { cls := .type "set", dict := none, data := .set #[] 0 (.fresh 0 0 led) }).IsTuple D #[.str x tx, .str y ty] := ⟨_, hD', rfl, nt, rfl⟩
        unfold Builtin.«set.__init__» noKeywords Builtin.Frozenset.updateFrom
        generalize hPI : pyIter = PI
        wp_walk
        subst hPI
        refine wpAny_pyIter_tuple hl1 ?_
        refine wpAny_bind (wpAny_runValue ?_)
        have hh3 : A.in1.in1.in1.handled = none := by simp [hh]
        have hneI : D ≠ (s.heap.push { cls := .type "set", dict := none, data := .set #[] 0 (.fresh 0 0 led) }).objs.size := by
          rw [Heap.size_push]; exact Nat.ne_of_lt (Nat.lt_succ_of_lt hlS)
        have hSf : s.heap.objs.size ∉ [(s.heap.push { cls := .type "set", dict := none, data := .set #[] 0 (.fresh 0 0 led) }).objs.size, D] := by
          rw [Heap.size_push]; simp only [List.mem_cons, List.not_mem_nil, or_false, not_or]
          exact ⟨Nat.ne_of_lt (Nat.lt_succ_self _), Nat.ne_of_gt hlS⟩
        have W := Walks.tuple (prog := prog) (w := w) hh3 (s.heap.push { cls := .type "set", dict := none, data := .set #[] 0 (.fresh 0 0 led) }).objs.size D hneI #[.str x tx, .str y ty]
        have hget : ((s.heap.push { cls := .type "set", dict := none, data := .set #[] 0 (.fresh 0 0 led) }).push { cls := .type "tuple_iterator", data := .fields #[.ref D, .int 0 0] }).get? s.heap.objs.size
              = some { cls := .type "set", dict := none, data := .set #[] 0 (.fresh 0 0 led) } := Heap.get?_push_of_some _ hS
        have keepAll : ∀ (h' : Heap), (∀ b o, b ∉ [(s.heap.push { cls := .type "set", dict := none, data := .set #[] 0 (.fresh 0 0 led) }).objs.size] → b ≠ s.heap.objs.size → (((s.heap.push { cls := .type "set", dict := none, data := .set #[] 0 (.fresh 0 0 led) }).push { cls := .type "tuple_iterator", data := .fields #[.ref D, .int 0 0] }).get? b = some o → h'.get? b = some o)) →
            ∀ b o, b < s.heap.objs.size → s.heap.get? b = some o → h'.get? b = some o := fun h' k b o hb e => by
          refine k b o ?_ (Nat.ne_of_lt hb) (Heap.get?_push_of_some _ (Heap.get?_push_of_some _ e))
          rw [Heap.size_push]; simp only [List.mem_cons, List.not_mem_nil, or_false]
          exact Nat.ne_of_lt (Nat.lt_succ_of_lt hb)
        refine upd_step (i := 0) (x := x) W hSf (by simp) ⟨⟨_, Heap.get?_push_size _ rfl, rfl, rfl⟩, (hl1.push _)⟩ (fun v hv => ⟨tx, by simpa using hv.symm⟩)
          ((setObjOf_fresh (knd := strKind prog w) led).setOf hget (by unfold scanBound; omega)) (by unfold scanBound; omega) fun h₁ tk₁ k₁ st₁ S₁ => ?_
        refine upd_step (i := 1) (x := y) W hSf (by simp) st₁ (fun v hv => ⟨ty, by simpa using hv.symm⟩) S₁ (by unfold scanBound; simp) fun h₂ tk₂ k₂ st₂ S₂ => ?_
        refine upd_done W st₂ fun h₃ tk₃ k₃ => ?_
        show wpAny _ _ _ _ _ _
        refine wpAny_pure ?_
        show wpAny _ _ (ret Value.none) _ _ _
        refine wpAny_pure ⟨rfl, h₃, tk₃, rfl, ?_, ?_⟩
        · exact SetOf_congr (setOf_at S₂ fun o ho => k₃ _ _ (fun hm => hSf (List.mem_cons.mpr (.inl (List.mem_singleton.mp hm)))) ho) (fun _ => rfl) (by simp)
        · exact keepAll h₃ fun b o h1 h2 e => k₃ b o h1 (k₂ b o h1 h2 (k₁ b o h1 h2 e))
      · cases r₂ with
        | error e => exact hr₂
        | ok fl₂ =>
          cases fl₂ with
          | ret r =>
            obtain ⟨rfl, h', tk, rfl, hS', hk'⟩ := hr₂
            repeat (any_goals (first | assumption | wp_step))
            exact h _ _ hk' hS'
          | _ => exact hr₂.elim
    | _ => exact hr.elim
end
end Mine

-- MStar
namespace Mine
open PySem PySem.W PySem.Calls PyProof.Rows PySem.Spec
set_option maxRecDepth 100000
section
variable {M : Model} {A : Around} {E : Value → Shared → Prop} {s : Shared}
/-- `o.name(*e)`: the attribute is read, then called -/
theorem starCall_ {env : Env} {n : Str} {np : Pos} {name : Str} {apos pos p : Pos} {e : Expr} {Q : Value → Shared → Prop}
    (h : wpAny M A (eval (.Name n np) env) (fun ov s₁ => wpAny M A (getAttr ov name true) (fun f s₂ => wpAny M A (callWith pos f [] (backTo pos (starEach [.Starred e p] env)) []) Q E s₂) E s₁) E s)
    (he : eval (.Call (.Attribute (.Name n np) name apos) [.Starred e p] [] pos) env = (do
      let ov ← eval (.Name n np) env
      standAt apos.atName
      methodCall (.Name n np) name apos pos env ov 1 (backTo pos (starEach [.Starred e p] env)) []) := by rfl)
    (hs : starEach [.Starred e p] env = [(true, eval e env)] := by rfl) :
    wpAny M A (eval (.Call (.Attribute (.Name n np) name apos) [.Starred e p] [] pos) env) Q E s := by
  rw [he]
  refine wpAny_bind (wpAny_mono h (fun ov s₁ h₁ => wpAny_bind (wpAny_standAt ?_)) fun _ _ x => x)
  rw [hs] at h₁ ⊢
  show wpAny M A (holding [ov] (do pure (← getAttr ov name true, [])) >>= fun fx => pure pos >>= fun callPos => callWith callPos fx.1 fx.2 (backTo pos [(true, eval e env)]) []) Q E s₁
  exact wpAny_bind (wpAny_holding (wpAny_bind (wpAny_mono h₁ (fun f s₂ h₂ => wpAny_pure (wpAny_bind (wpAny_pure h₂))) fun _ _ x => x)))
end
section
variable {prog : Program} {w : World} {A : Around} {E : Value → Shared → Prop} {s : Shared} {K : Frag} {x C p L : Addr} {ox od : Obj} {name : Str} {h₀ : Heap} {m : Str → Option Value} {es : List DictEntry} {n : Nat} {Q : Value → Shared → Prop} {fv : Value} {rest : List Value} {expr : Bool}
/-- a staticmethod read through an instance -/
theorem get_sm (F : Fr h₀ L s.heap m) (X₀ : K.In h₀) (I : InstAt s.heap x ox C (some (dictOf es n))) (hg : plainGet K C name = true) (hh : hasDictIn K C = true) (ha : findIn K (.ref C) name = some (some (.ref p)))
    (hgf : specialIn K (.ref p) "__get__" = some (some (.builtin "staticmethod.__get__"))) (hts : takesIn K (.ref p) = some false) (hc : copiedNames.contains name = false) (hl : getL name es = some none) (hp : recIn K p "staticmethod" = some (fv :: rest)) (hv : handedIn fv = true)
    (h : Q fv { s with toks := s.toks + 1 }) : wpAny (model prog w) A (getAttr (.ref x) name expr) Q E s :=
  get_bind (X₀.keeps F.keep) I (plainGet_of hg).1 (findObj_fn hh ha hgf hts hc (by show lookIn name (dictOf es n) = _; rw [lookIn_dict, hl])) (plainGet_of hg).2
    (wpAny_call (sm_get (s := { s with toks := s.toks + 1 }) (X₀.keeps F.keep) hp (handed_on hv h)))
end
section
variable {M : Model} {A : Around} {E : Value → Shared → Prop} {s : Shared} {K : Frag} {env : Env} {pos p : Pos} {Q : Value → Shared → Prop} {h₀ : Heap} {e : Expr} {L : Addr} {news : List (Addr × Obj)}
/-- `q(*e)`, q a method object of the ledger -/
theorem callWith_SM {q g : Addr} {self : Value} (_X : K.In h₀) (_N : News h₀ L s.heap news) (_hq : (q, methodObj (.ref g) self) ∈ news) (hf : fnIn K g = true)
    (h : wpAny M A (eval e env) (fun v s₁ => StarOf M A E v (fun vs s₂ => MethP K q g self s₂.heap ∧ wpAny M A (call (.ref q) vs) Q E s₂) s₁) E s)
    (he : starEach [.Starred e p] env = [(true, eval e env)] := by rfl) :
    wpAny M A (callWith pos (.ref q) [] (backTo pos (starEach [.Starred e p] env)) []) Q E s := by
  rw [he]
  exact ks_call rfl (keeps_M hf) (ks_lone h)
/-- `x(*e)`, x an instance whose class binds __call__ -/
theorem callWith_SC {x C : Addr} {ox : Obj} {od : Option Obj} (_I : InstAt s.heap x ox C od) (hd : ox.data = .plain)
    (h : wpAny M A (eval e env) (fun v s₁ => StarOf M A E v (fun vs s₂ => kco_P K x C ox od s₂.heap ∧ wpAny M A (call (.ref x) vs) Q E s₂) s₁) E s)
    (he : starEach [.Starred e p] env = [(true, eval e env)] := by rfl) :
    wpAny M A (callWith pos (.ref x) [] (backTo pos (starEach [.Starred e p] env)) []) Q E s := by
  rw [he]
  unfold callWith
  refine wpAny_bind (wpAny_holding (wpAny_mono (ks_lone (Q := fun a s₂ => kco_P K x C ox od s₂.heap ∧ wpAny M A (call (.ref x) ([] ++ a.pos) a.kw) Q E s₂) h) (fun a s₁ h₁ => wpAny_bind (wpAny_standAt ?_)) fun _ _ x => x))
  have Lk := kco_keeper (M := M) h₁.1.2 hd
  simp only [List.any_cons, List.any_nil, Bool.or_false]
  refine wpAny_bind (Lk.here ?_)
  have tail : ∀ {t : Sem Value}, wpAny M A t Q E s₁ → wpAny M A (t >>= fun r => holding [r] point >>= fun _ => pure r) Q E s₁ :=
    fun ht => wpAny_bind (wpAny_mono ht (fun r s₂ hr => wpAny_bind (wpAny_holding (wpAny_point (wpAny_pure hr)))) fun _ _ x => x)
  dsimp only
  exact tail (wpAny_operating h₁.2)
end
end Mine

-- MMap
namespace Mine
open PySem PySem.W PySem.Calls PyProof.Rows PySem.Spec
set_option maxRecDepth 100000
theorem slot_map_init : Slot "map" "__init__" "object.__init__" :=
  .of (owner := "object") (n := "__init__") (by rw [typeLookup_type, builtinLookup_eq_fast]; kernel_rfl) (by decide +kernel) (by decide +kernel) (by decide +kernel)
    (by first | exact .inl (by decide +kernel) | exact .inr (by decide +kernel)) (by rw [isSubtype_type]; kernel_rfl)
theorem slot_map_iter : Slot "map" "__iter__" "map.__iter__" :=
  .of (owner := "map") (n := "__iter__") (by rw [typeLookup_type, builtinLookup_eq_fast]; kernel_rfl) (by decide +kernel) (by decide +kernel) (by decide +kernel)
    (by first | exact .inl (by decide +kernel) | exact .inr (by decide +kernel)) (by rw [isSubtype_type]; kernel_rfl)
theorem slot_map_next : Slot "map" "__next__" "map.__next__" :=
  .of (owner := "map") (n := "__next__") (by rw [typeLookup_type, builtinLookup_eq_fast]; kernel_rfl) (by decide +kernel) (by decide +kernel) (by decide +kernel)
    (by first | exact .inl (by decide +kernel) | exact .inr (by decide +kernel)) (by rw [isSubtype_type]; kernel_rfl)
theorem args_map_iter_1 (a : Value) : argsOk "map.__iter__" ⟨[a], []⟩ := by unfold argsOk; kernel_rfl
theorem args_map_next_1 (a : Value) : argsOk "map.__next__" ⟨[a], []⟩ := by unfold argsOk; kernel_rfl
theorem entry_map_iter : entryFor table "map.__iter__" = some Builtin.«dict_keyiterator.__iter__» :=
  entryFor_alias (id' := "dict_keyiterator.__iter__") (by kernel_rfl) (by first | rfl | decide +kernel | (unfold String.splitOn; simp +decide [String.splitOnAux])) (by decide +kernel) (by kernel_rfl)
theorem entry_map_next : entryFor table "map.__next__" = some Builtin.«map.__next__» := entryFor_of_tree (by kernel_rfl)
theorem entry_map_new : entryFor table "map.__new__" = some Builtin.«map.__new__» := entryFor_of_tree (by kernel_rfl)
theorem mro_map : mroOf (.type "map") = pure [.type "map", .type "object"] := by rw [mroOf_type]; kernel_rfl
theorem lookup_map_new : typeLookup (.type "map") "__new__" = pure (some (.builtin "map.__new__")) := by rw [typeLookup_type, builtinLookup_eq_fast]; kernel_rfl
theorem called_map : TypeCalled "map" "map.__new__" "object.__init__" :=
  ⟨by decide +kernel, by decide +kernel, ⟨_, _, mro_map⟩, madeBy_type mro_map lookup_map_new (by decide +kernel), by decide +kernel, by rw [isSubtype_type]; kernel_rfl, slot_map_init⟩
theorem typeCall_map_2 (a b : Value) : checkTypeCall "map" ⟨[a, b], []⟩ = pure () := by kernel_rfl
theorem newCall_map_2 (a b : Value) : checkBuiltinCall "map.__new__" ⟨[.type "map", a, b], []⟩ = pure () := by kernel_rfl
theorem sub_map : isSubtype (.type "map") (.type "map") = pure true := by rw [isSubtype_type]; kernel_rfl

abbrev mapObj (T : Addr) (f : Value) : Obj := { cls := .type "map", dict := none, data := .fields #[.ref T, f], slots := #[] }
abbrev oneTup (v : Value) : Obj := { cls := .type "tuple", data := .seq #[v] }
abbrev tupIt (D : Addr) (i : Nat) : Obj := { cls := .type "tuple_iterator", data := .fields #[.ref D, .int i 0] }

theorem meets_map_new (f : Value) (D : Addr) (xs : Array Value) :
    Meets (Builtin.«map.__new__» ⟨[.type "map", f, .ref D], []⟩) (fun _ R s => s.heap.IsTuple D xs ∧
      R (.ok (.ret (.ref (s.heap.objs.size + 2)))) { s with heap := ((s.heap.push (tupIt D 0)).push (oneTup (.ref s.heap.objs.size))).push (mapObj (s.heap.objs.size + 1) f) }) :=
  .of_wp fun prog w A R s h => by
    obtain ⟨hp, g, d, tk, os⟩ := s; obtain ⟨hl1, h⟩ := h
    have hsub := sub_map
    have hL1 : Heap.IsTuple (Shared.heap ⟨hp, g, d, tk, os⟩) D xs := hl1
    wp_walk using wpAny_pyIter_tuple hL1
    have z1 : (hp.push (tupIt D 0)).objs.size = hp.objs.size + 1 := Heap.size_push ..
    have z2 : ((hp.push (tupIt D 0)).push (oneTup (.ref hp.objs.size))).objs.size = hp.objs.size + 2 := by rw [Heap.size_push, z1]
    have key : ∀ n1 n2, n1 = hp.objs.size + 1 → n2 = hp.objs.size + 2 → R (.ok (.ret (.ref n2))) { heap := ((hp.push (tupIt D 0)).push (oneTup (.ref hp.objs.size))).push (mapObj n1 f), gens := g, drawn := d, toks := tk, os := os } := by
      rintro _ _ rfl rfl; exact h
    exact ⟨_, rfl, key _ _ z1 z2⟩

section
variable {prog : Program} {w : World} {A : Around} {E : Value → Shared → Prop} {s : Shared}
theorem nextOf_tuple_item {it D : Addr} {i : Nat} {items : Array Value} {x : Value} {Q : Value → Shared → Prop} (ho : s.heap.get? it = some (tupIt D i))
    (hl : s.heap.IsTuple D items) (hx : items[i]? = some x)
    (hQ : ∀ h', h'.get? it = some (tupIt D (i + 1)) → Heap.SameBut it s.heap h' → Q x { s with heap := h' }) :
    wpAny (model prog w) A (Builtin.SmallTypes.nextOf (.ref it)) Q E s := by
  have hit : s.TypeIs (.ref it) "tuple_iterator" := ⟨_, ho, rfl⟩
  obtain ⟨ol, hol, _, nl, hdl⟩ := hl
  unfold Builtin.SmallTypes.nextOf
  refine wpAny_bind (wpAny_callSpecial?_slot (name := Str.ofString "__next__") hit F.slot_tuple_iterator_next
    (wpAny_call_entry F.slot_tuple_iterator_next hit F.entry_tuple_iterator_next ?_ (F.args_tuple_iterator_next_1 _)))
  show wpAny _ _ (field (.ref it) 0 >>= _) _ _ s
  refine wpAny_bind (wpAny_field ho rfl (x := .ref D) rfl ?_)
  show wpAny _ _ (if (Value.ref D == Value.none) = true then _ else _) _ _ s
  rw [if_neg (show ¬ ((Value.ref D == Value.none) = true) from Bool.false_ne_true)]
  show wpAny _ _ (field (.ref it) 1 >>= _) _ _ s
  refine wpAny_bind (wpAny_field ho rfl (x := .int i 0) rfl ?_)
  show wpAny _ _ (seqItems? (.ref D) >>= _) _ _ s
  refine wpAny_bind (wpAny_seqItems hol hdl ?_)
  simp only [Int.toNat_natCast, hx]
  refine wpAny_bind (wpAny_setField_rec ho (by simp) fun h' hi' hs' => wpAny_pure ⟨x, rfl, wpAny_pure (hQ h' ?_ hs')⟩)
  rw [hi']
  rfl

theorem nextOf_tuple_end {it D : Addr} {i : Nat} {items : Array Value} {Q : Value → Shared → Prop} (hh : A.handled = none)
    (hit : s.heap.IsTupleIter it D i) (hl : s.heap.IsTuple D items) (hx : items[i]? = none)
    (hE : ∀ h' e, Heap.ExtBut it s.heap h' → (∃ o, h'.get? e = some o ∧ o.cls = .type "StopIteration") → E (.ref e) { s with heap := h' }) :
    wpAny (model prog w) A (Builtin.SmallTypes.nextOf (.ref it)) Q E s := by
  obtain ⟨o, ho, hc, hd⟩ := id hit
  obtain ⟨ol, hol, _, nl, hdl⟩ := hl
  unfold Builtin.SmallTypes.nextOf
  refine wpAny_bind (wpAny_callSpecial?_slot (name := Str.ofString "__next__") hit.typeIs F.slot_tuple_iterator_next
    (wpAny_call_entry F.slot_tuple_iterator_next hit.typeIs F.entry_tuple_iterator_next ?_ (F.args_tuple_iterator_next_1 _)))
  show wpAny _ _ (field (.ref it) 0 >>= _) _ _ s
  refine wpAny_bind (wpAny_field ho hd (x := .ref D) rfl ?_)
  show wpAny _ _ (if (Value.ref D == Value.none) = true then _ else _) _ _ s
  rw [if_neg (show ¬ ((Value.ref D == Value.none) = true) from Bool.false_ne_true)]
  show wpAny _ _ (field (.ref it) 1 >>= _) _ _ s
  refine wpAny_bind (wpAny_field ho hd (x := .int i 0) rfl ?_)
  show wpAny _ _ (seqItems? (.ref D) >>= _) _ _ s
  refine wpAny_bind (wpAny_seqItems hol hdl ?_)
  simp only [Int.toNat_natCast, hx]
  refine wpAny_bind (wpAny_rule (wpAny_bind (wpAny_setField ho hd (by simp) ?_)))
  show wpAny _ _ (newExc (.type "StopIteration") [] >>= _) _ _ _
  refine wpAny_bind ?_
  simp only [newExc, newTuple]
  refine wpAny_bind (wpAny_newObj_type ?_ (by size_fits))
  refine wpAny_bind (m := firstArgMember _ _) (wpAny_of_eq (a := Value.none) (by first | rfl | (simp only [firstArgMember]; rfl)) ?_)
  refine wpAny_newObj_type ?_ (by size_fits)
  simp only [raiseNew]
  refine wpAny_bind (wpAny_handled ?_)
  first | rw [show A.in1.handled = none from hh] | rw [hh]
  refine wpAny_bind (wpAny_pure (wpAny_throw ?_))
  exact hE _ _ (((Heap.SameBut.update ..).extBut.push _).push _) ⟨_, Heap.get?_push_size _ rfl, rfl⟩

theorem pyIter_map {mp T : Addr} {f : Value} {Q : Value → Shared → Prop} (hm : s.heap.get? mp = some (mapObj T f)) (h : Q (.ref mp) s) : wpAny (model prog w) A (pyIter (.ref mp)) Q E s := by
  have hT : s.TypeIs (.ref mp) "map" := ⟨_, hm, rfl⟩
  refine wpAny_pyIter_slot hT slot_map_iter (wpAny_call_entry slot_map_iter hT entry_map_iter ?_ (args_map_iter_1 _))
  show wpAny _ _ (ret (.ref mp)) _ _ s
  exact wpAny_pure ⟨_, rfl, "map", _, hT, slot_map_next.lookup, h⟩

end
end Mine

-- MMap2
namespace Mine
open PySem PySem.W PySem.Calls PyProof.Rows PySem.Spec
set_option maxRecDepth 100000
section
variable {prog : Program} {w : World} {A : Around} {E : Value → Shared → Prop} {s : Shared}
/-- the next item of a map over a tuple -/
theorem pyNext_map_item {mp T I D : Addr} {f v : Value} {i : Nat} {xs : Array Value} {Q : Option Value → Shared → Prop}
    (hm : s.heap.get? mp = some (mapObj T f)) (hT : s.heap.get? T = some (oneTup (.ref I))) (hI : s.heap.get? I = some (tupIt D i)) (hD : s.heap.IsTuple D xs) (hx : xs[i]? = some v) (h1 : mp ≠ I)
    (h : ∀ h', h'.get? I = some (tupIt D (i + 1)) → Heap.SameBut I s.heap h' → wpAny (model prog w) A.in1 (call f [v]) (fun r s' => Q (some r) s') (fun _ _ => False) { s with heap := h' }) :
    wpAny (model prog w) A (pyNext (.ref mp)) Q E s := by
  have hTy : s.TypeIs (.ref mp) "map" := ⟨_, hm, rfl⟩
  unfold pyNext
  refine wpAny_bind (wpAny_attempt (wpAny_callSpecial?_slot (name := Str.ofString "__next__") hTy slot_map_next
    (wpAny_call_entry slot_map_next hTy entry_map_next ?_ (args_map_next_1 _))))
  show wpAny _ _ (field (.ref mp) 0 >>= _) _ _ s
  refine wpAny_bind (wpAny_field hm rfl (x := .ref T) rfl ?_)
  refine wpAny_bind (wpAny_seqItems hT rfl ?_)
  dsimp only
  simp only [List.forIn_toArray, List.forIn_cons, List.forIn_nil]
  refine wpAny_bind (wpAny_bind (wpAny_bind (wpAny_holding (nextOf_tuple_item hI hD hx fun h' hI' hs' => wpAny_pure ?_))))
  dsimp only
  refine wpAny_pure ?_
  have hm' : h'.get? mp = some (mapObj T f) := (hs'.2 mp h1).trans hm
  refine wpAny_bind (wpAny_field hm' rfl (x := f) rfl ?_)
  refine wpAny_bind (wpAny_holding (wpAny_mono (h h' hI' hs') (fun r s' hq => ?_) fun _ _ e => e.elim))
  exact wpAny_bind (wpAny_letGo (wpAny_pure ⟨_, rfl, wpAny_pure hq⟩))
theorem pyNext_map_end {mp T I D : Addr} {f : Value} {i : Nat} {xs : Array Value} {Q : Option Value → Shared → Prop} (hh : A.handled = none)
    (hm : s.heap.get? mp = some (mapObj T f)) (hT : s.heap.get? T = some (oneTup (.ref I))) (hI : s.heap.IsTupleIter I D i) (hD : s.heap.IsTuple D xs) (hx : xs[i]? = none)
    (h : ∀ h', Heap.ExtBut I s.heap h' → Q none { s with heap := h' }) :
    wpAny (model prog w) A (pyNext (.ref mp)) Q E s := by
  have hTy : s.TypeIs (.ref mp) "map" := ⟨_, hm, rfl⟩
  unfold pyNext
  refine wpAny_bind (wpAny_attempt (wpAny_callSpecial?_slot (name := Str.ofString "__next__") hTy slot_map_next
    (wpAny_call_entry slot_map_next hTy entry_map_next ?_ (args_map_next_1 _))))
  show wpAny _ _ (field (.ref mp) 0 >>= _) _ _ s
  refine wpAny_bind (wpAny_field hm rfl (x := .ref T) rfl ?_)
  refine wpAny_bind (wpAny_seqItems hT rfl ?_)
  dsimp only
  simp only [List.forIn_toArray, List.forIn_cons, List.forIn_nil]
  refine wpAny_bind (wpAny_bind (wpAny_bind (wpAny_holding (nextOf_tuple_end (show A.in1.handled = none from hh) hI hD hx fun h' e hk he => ?_))))
  obtain ⟨o, ho, hc⟩ := he
  refine wpAny_bind (wpAny_isInstance (T := "StopIteration") (b := true) ⟨o, ho, hc⟩ isSubtype_stop ?_)
  exact wpAny_pure (h _ hk)

variable {h₀ : Heap} {L : Addr} {m : Str → Option Value} {news : List (Addr × Obj)}
abbrev pairTup (x y : Str) (tx ty : Tok) (nt : Nat) : Obj := { cls := .type "tuple", data := .seq #[.str x tx, .str y ty] nt }
theorem map_step {mp T I D : Addr} {f : Value} {x y z : Str} {tx ty tz : Tok} {nt k : Nat} {b : Bool} {Q : Option Value → Shared → Prop} {h : Heap} {tk : Nat} (F : Fr h₀ L h m) (N : News h₀ L h ((I, tupIt D k) :: news))
    (hoff : ∀ p ∈ news, p.1 ≠ I) (hmp : (mp, mapObj T f) ∈ news) (hT : (T, oneTup (.ref I)) ∈ news) (hD : (D, pairTup x y tx ty nt) ∈ news) (hz : (#[.str x tx, .str y ty] : Array Value)[k]? = some (.str z tz))
    (hf : ∀ h' tk' (Q' : Value → Shared → Prop), Fr h₀ L h' m → News h₀ L h' ((I, tupIt D (k + 1)) :: news) → (∀ h'' tk'', Fr h₀ L h'' m → News h₀ L h'' ((I, tupIt D (k + 1)) :: news) → Q' (.bool b) { s with heap := h'', toks := tk'' }) →
      wpAny (model prog w) A.in1 (call f [.str z tz]) Q' (fun _ _ => False) { s with heap := h', toks := tk' })
    (hQ : ∀ h' tk', Fr h₀ L h' m → News h₀ L h' ((I, tupIt D (k + 1)) :: news) → Q (some (.bool b)) { s with heap := h', toks := tk' }) :
    wpAny (model prog w) A (pyNext (.ref mp)) Q E { s with heap := h, toks := tk } := by
  have NI := N _ List.mem_cons_self
  refine pyNext_map_item (s := { s with heap := h, toks := tk }) (N _ (.tail _ hmp)).1 (N _ (.tail _ hT)).1 NI.1 ⟨_, (N _ (.tail _ hD)).1, rfl, _, rfl⟩ hz (hoff _ hmp) fun h' hi hs => ?_
  refine hf h' tk _ (F.change hs NI.2.1 NI.2.2) (fun p hp => ?_) fun h'' tk'' F'' N'' => hQ h'' tk'' F'' N''
  rcases List.mem_cons.mp hp with rfl | hp
  · exact ⟨hi, NI.2⟩
  · have z := N p (.tail _ hp)
    exact ⟨(hs.2 _ (hoff p hp)).trans z.1, z.2⟩
theorem map_stop {mp T I D : Addr} {f : Value} {x y : Str} {tx ty : Tok} {nt : Nat} {Q : Option Value → Shared → Prop} {h : Heap} {tk : Nat} (hh : A.handled = none) (F : Fr h₀ L h m) (N : News h₀ L h ((I, tupIt D 2) :: news))
    (hoff : ∀ p ∈ news, p.1 ≠ I) (hmp : (mp, mapObj T f) ∈ news) (hT : (T, oneTup (.ref I)) ∈ news) (hD : (D, pairTup x y tx ty nt) ∈ news)
    (hQ : ∀ h', Fr h₀ L h' m → News h₀ L h' news → Q none { s with heap := h', toks := tk }) :
    wpAny (model prog w) A (pyNext (.ref mp)) Q E { s with heap := h, toks := tk } := by
  have NI := N _ List.mem_cons_self
  refine pyNext_map_end (s := { s with heap := h, toks := tk }) hh (N _ (.tail _ hmp)).1 (N _ (.tail _ hT)).1 ⟨_, NI.1, rfl, rfl⟩ ⟨_, (N _ (.tail _ hD)).1, rfl, _, rfl⟩ rfl fun h' hk => ?_
  refine hQ h' ⟨F.ns.at' fun o e => hk _ o (fun q => NI.2.1 q.symm) e, fun b o e => hk b o (fun q => by rw [q, NI.2.2] at e; cases e) (F.keep b o e), F.above⟩ fun p hp => ?_
  have z := N p (.tail _ hp)
  exact ⟨hk _ _ (hoff p hp) z.1, z.2⟩
/-- what the mapped function must do -/
abbrev Maps (prog : Program) (w : World) (A : Around) (h₀ : Heap) (L : Addr) (m : Str → Option Value) (news : List (Addr × Obj)) (s : Shared) (I D : Addr) (f : Value) (q : Str → Bool) (x y : Str) : Prop :=
  ∀ z tz k h' tk' (Q' : Value → Shared → Prop), z = x ∨ z = y → Fr h₀ L h' m → News h₀ L h' ((I, tupIt D k) :: news) → (∀ h'' tk'', Fr h₀ L h'' m → News h₀ L h'' ((I, tupIt D k) :: news) → Q' (.bool (q z)) { s with heap := h'', toks := tk'' }) →
      wpAny (model prog w) A (call f [.str z tz]) Q' (fun _ _ => False) { s with heap := h', toks := tk' }
theorem all_map2 {mp T I D : Addr} {f : Value} {x y : Str} {tx ty : Tok} {nt : Nat} {Q : Value → Shared → Prop} (q : Str → Bool) (hh : A.handled = none) (F : Fr h₀ L s.heap m) (N : News h₀ L s.heap ((I, tupIt D 0) :: news))
    (hoff : ∀ p ∈ news, p.1 ≠ I) (hmp : (mp, mapObj T f) ∈ news) (hT : (T, oneTup (.ref I)) ∈ news) (hD : (D, pairTup x y tx ty nt) ∈ news)
    (hf : Maps prog w A.in1.in1 h₀ L m news s I D f q x y)
    (h : ∀ h' tk, Fr h₀ L h' m → News h₀ L h' news → Q (.bool (q x && q y)) { s with heap := h', toks := tk }) : wpAny (model prog w) A (call (.builtin "all") [.ref mp]) Q E s := by
  have drop : ∀ {h' : Heap} {k : Nat}, News h₀ L h' ((I, tupIt D k) :: news) → News h₀ L h' news := fun N' p hp => N' p (.tail _ hp)
  refine call_function_tree PySem.F.kind_all PySem.F.plain_all PySem.F.entry_all (PySem.F.args_all1 _) ?_
  unfold Builtin.«all»
  refine wpAny_bind (m := oneArg "all" _) (wpAny_pure ?_)
  refine wpAny_bind (pyIter_map (N _ (.tail _ hmp)).1 (wpAny_pure ⟨plainId_quiet PySem.F.plain_all_loop _, ?_⟩))
  refine codeAny_builtin PySem.F.entry_all_loop ?_
  rw [Around.under_plainId PySem.F.plain_all_loop _]
  show wpAny _ A.in1 (pyNext (.ref mp) >>= _) _ _ _
  refine wpAny_bind (map_step (s := s) (h := s.heap) (tk := s.toks) (z := x) F N hoff hmp hT hD rfl (fun h' tk' Q' F' N' hq => hf x tx _ h' tk' Q' (.inl rfl) F' N' hq) fun h₁ tk₁ F₁ N₁ => ?_)
  refine wpAny_bind (wpAny_holding (wpAny_truthy_bool ?_))
  refine wpAny_bind (wpAny_letGo ?_)
  cases hb : q x with
  | false =>
    simp only [Bool.false_eq_true, if_false]
    have z := h h₁ tk₁ F₁ (drop N₁)
    rw [hb, Bool.false_and] at z
    exact wpAny_bind (wpAny_rule (wpAny_pure z))
  | true =>
    simp only [if_true]
    refine wpAny_pure ⟨plainId_quiet PySem.F.plain_all_loop _, ?_⟩
    refine codeAny_builtin PySem.F.entry_all_loop ?_
    rw [Around.under_plainId PySem.F.plain_all_loop _]
    show wpAny _ A.in1 (pyNext (.ref mp) >>= _) _ _ _
    refine wpAny_bind (map_step (s := s) (h := h₁) (tk := tk₁) (z := y) F₁ N₁ hoff hmp hT hD rfl (fun h' tk' Q' F' N' hq => hf y ty _ h' tk' Q' (.inr rfl) F' N' hq) fun h₂ tk₂ F₂ N₂ => ?_)
    refine wpAny_bind (wpAny_holding (wpAny_truthy_bool ?_))
    refine wpAny_bind (wpAny_letGo ?_)
    cases hb2 : q y with
    | false =>
      simp only [Bool.false_eq_true, if_false]
      have z := h h₂ tk₂ F₂ (drop N₂)
      rw [hb, hb2, Bool.true_and] at z
      exact wpAny_bind (wpAny_rule (wpAny_pure z))
    | true =>
      simp only [if_true]
      refine wpAny_pure ⟨plainId_quiet PySem.F.plain_all_loop _, ?_⟩
      refine codeAny_builtin PySem.F.entry_all_loop ?_
      rw [Around.under_plainId PySem.F.plain_all_loop _]
      show wpAny _ A.in1 (pyNext (.ref mp) >>= _) _ _ _
      refine wpAny_bind (map_stop (s := s) (h := h₂) (tk := tk₂) hh F₂ N₂ hoff hmp hT hD fun h₃ F₃ N₃ => ?_)
      have z := h h₃ tk₂ F₃ N₃
      rw [hb, hb2, Bool.true_and] at z
      exact wpAny_bind (wpAny_rule (wpAny_pure z))
theorem any_map2 {mp T I D : Addr} {f : Value} {x y : Str} {tx ty : Tok} {nt : Nat} {Q : Value → Shared → Prop} (q : Str → Bool) (hh : A.handled = none) (F : Fr h₀ L s.heap m) (N : News h₀ L s.heap ((I, tupIt D 0) :: news))
    (hoff : ∀ p ∈ news, p.1 ≠ I) (hmp : (mp, mapObj T f) ∈ news) (hT : (T, oneTup (.ref I)) ∈ news) (hD : (D, pairTup x y tx ty nt) ∈ news)
    (hf : Maps prog w A.in1.in1 h₀ L m news s I D f q x y)
    (h : ∀ h' tk, Fr h₀ L h' m → News h₀ L h' news → Q (.bool (q x || q y)) { s with heap := h', toks := tk }) : wpAny (model prog w) A (call (.builtin "any") [.ref mp]) Q E s := by
  have drop : ∀ {h' : Heap} {k : Nat}, News h₀ L h' ((I, tupIt D k) :: news) → News h₀ L h' news := fun N' p hp => N' p (.tail _ hp)
  refine call_function_tree PySem.F.kind_any PySem.F.plain_any PySem.F.entry_any (PySem.F.args_any1 _) ?_
  unfold Builtin.«any»
  refine wpAny_bind (m := oneArg "any" _) (wpAny_pure ?_)
  refine wpAny_bind (pyIter_map (N _ (.tail _ hmp)).1 (wpAny_pure ⟨plainId_quiet PySem.F.plain_any_loop _, ?_⟩))
  refine codeAny_builtin PySem.F.entry_any_loop ?_
  rw [Around.under_plainId PySem.F.plain_any_loop _]
  show wpAny _ A.in1 (pyNext (.ref mp) >>= _) _ _ _
  refine wpAny_bind (map_step (s := s) (h := s.heap) (tk := s.toks) (z := x) F N hoff hmp hT hD rfl (fun h' tk' Q' F' N' hq => hf x tx _ h' tk' Q' (.inl rfl) F' N' hq) fun h₁ tk₁ F₁ N₁ => ?_)
  refine wpAny_bind (wpAny_holding (wpAny_truthy_bool ?_))
  refine wpAny_bind (wpAny_letGo ?_)
  cases hb : q x with
  | true =>
    simp only [if_true]
    have z := h h₁ tk₁ F₁ (drop N₁)
    rw [hb, Bool.true_or] at z
    exact wpAny_bind (wpAny_rule (wpAny_pure z))
  | false =>
    simp only [Bool.false_eq_true, if_false]
    refine wpAny_pure ⟨plainId_quiet PySem.F.plain_any_loop _, ?_⟩
    refine codeAny_builtin PySem.F.entry_any_loop ?_
    rw [Around.under_plainId PySem.F.plain_any_loop _]
    show wpAny _ A.in1 (pyNext (.ref mp) >>= _) _ _ _
    refine wpAny_bind (map_step (s := s) (h := h₁) (tk := tk₁) (z := y) F₁ N₁ hoff hmp hT hD rfl (fun h' tk' Q' F' N' hq => hf y ty _ h' tk' Q' (.inr rfl) F' N' hq) fun h₂ tk₂ F₂ N₂ => ?_)
    refine wpAny_bind (wpAny_holding (wpAny_truthy_bool ?_))
    refine wpAny_bind (wpAny_letGo ?_)
    cases hb2 : q y with
    | true =>
      simp only [if_true]
      have z := h h₂ tk₂ F₂ (drop N₂)
      rw [hb, hb2, Bool.false_or] at z
      exact wpAny_bind (wpAny_rule (wpAny_pure z))
    | false =>
      simp only [Bool.false_eq_true, if_false]
      refine wpAny_pure ⟨plainId_quiet PySem.F.plain_any_loop _, ?_⟩
      refine codeAny_builtin PySem.F.entry_any_loop ?_
      rw [Around.under_plainId PySem.F.plain_any_loop _]
      show wpAny _ A.in1 (pyNext (.ref mp) >>= _) _ _ _
      refine wpAny_bind (map_stop (s := s) (h := h₂) (tk := tk₂) hh F₂ N₂ hoff hmp hT hD fun h₃ F₃ N₃ => ?_)
      have z := h h₃ tk₂ F₃ N₃
      rw [hb, hb2, Bool.false_or] at z
      exact wpAny_bind (wpAny_rule (wpAny_pure z))
/-- `map(f, t)` over the ledger -/
theorem call_map_N {D : Addr} {f : Value} {x y : Str} {tx ty : Tok} {nt : Nat} {Q : Value → Shared → Prop} (F : Fr h₀ L s.heap m) (N : News h₀ L s.heap news) (hD : (D, pairTup x y tx ty nt) ∈ news)
    (h : ∀ I h', Fr h₀ L h' m → News h₀ L h' ((I, tupIt D 0) :: (I + 2, mapObj (I + 1) f) :: (I + 1, oneTup (.ref I)) :: news) → (∀ p ∈ news, p.1 < I) → Q (.ref (I + 2)) { s with heap := h' }) :
    wpAny (model prog w) A (call (.type "map") [f, .ref D]) Q E s := by
  refine callType_new called_map (by decide) (typeCall_map_2 _ _) (newCall_map_2 _ _) (fun obj => PySem.F.args_object_init_3 obj _ _) entry_map_new
    (meets_map_new f D #[.str x tx, .str y ty]) ⟨⟨_, (N _ hD).1, rfl, _, rfl⟩, ?_⟩
  have z1 : (s.heap.push (tupIt D 0)).objs.size = s.heap.objs.size + 1 := Heap.size_push ..
  have z2 : ((s.heap.push (tupIt D 0)).push (oneTup (.ref s.heap.objs.size))).objs.size = s.heap.objs.size + 2 := by rw [Heap.size_push, z1]
  have N1 := N.push F (tupIt D 0)
  have F1 := F.push (tupIt D 0)
  have N2 := N1.push F1 (oneTup (.ref s.heap.objs.size))
  have F2 := F1.push (oneTup (.ref s.heap.objs.size))
  have N3 := N2.push F2 (mapObj (s.heap.objs.size + 1) f)
  have F3 := F2.push (mapObj (s.heap.objs.size + 1) f)
  rw [z1] at N3
  rw [z2] at N3
  have g3 := (N3 _ List.mem_cons_self).1
  refine ⟨⟨_, g3, rfl⟩, h _ _ F3 (fun p hp => ?_) fun p hp => Heap.lt_size (N p hp).1⟩
  simp only [List.mem_cons] at hp
  rcases hp with rfl | rfl | rfl | hp
  · exact N3 _ (by simp)
  · exact N3 _ (by simp)
  · exact N3 _ (by simp)
  · exact N3 _ (by simp [hp])
end
end Mine

-- MCell
namespace Mine
open PySem PySem.W PySem.Calls PyProof.Rows PySem.Spec
set_option maxRecDepth 100000
section
variable {prog : Program} {w : World} {A₀ A : Around} {s : Shared} {base h₀ : Heap} {outer : List Env} {L : Addr} {m : Str → Option Value} {env : Env} {news : List (Addr × Obj)} {K : Frag}
  {R : Result → Shared → Prop} {name qual : Str} {params : Arguments} {body : List Stmt} {scope : Scope} {dV kV doc pm cdv ct oc : Value} {an od : Option Addr} {osl : Array (Option Value)} {f : Addr} {args : Args} {binds : List (Str × Value)}
  {mg mb : Str → Option Value} {p : Program} {loose : List Str} {mean : ExcName → Option Value}

theorem frame_cells {E : Value → Shared → Prop} (B : Below A₀ base outer h₀) (F : Fr h₀ L s.heap m) (N : News h₀ L s.heap news) (hlim : h₀.NoLimit) (hA : A.frames = some (env :: outer)) (hf : env.frame = some L) (hke : env.scope.kind = .function)
    (hkind : ∀ n, ∀ x ∈ binds, scope.names.lookup x.1 = some .local ∨ (scope.names.lookup x.1 = some .cell ∧ ((cellsFrom n scope.names []).lookup x.1).isSome = true))
    (hnd : ((cellsFrom 0 scope.names []).map (·.1)).Nodup)
    (h : ∀ g L' h₁ tk cells, Fr h₀ L g m → Fr g L' h₁ (bindL (envOfC qual scope L' f cdv).kindOf binds fun _ => none) → News g L' h₁ (cells ++ news) →
      CellsAre (bindC (envOfC qual scope L' f cdv).kindOf binds fun _ => none) (cellsFrom (L' + 1) scope.names []) cells → Below A base (env :: outer) g → h₀.StaysIn g → (∀ p ∈ news, p.1 < L') →
      wpAny (model prog w) (A.deeper (envOfC qual scope L' f cdv)) (execs body (envOfC qual scope L' f cdv))
        (fun fl s' => LeaveK h₀ L m g R (match fl with | .ret v => v | _ => .none) s')
        (fun e s' => wpAny (model prog w) (A.deeper (envOfC qual scope L' f cdv)) (leaving (envOfC qual scope L' f cdv) e) (fun _ s'' => R (.error e) s'') (fun e' s'' => R (.error e') s'') s')
        { s with heap := h₁, toks := tk })
    (hk : scope.kind = .function) :
    wpAny (model prog w) A.in1 (newFunctionEnv scope mainGlobals [] binds (qual ++ ".<locals>.") (some f) cdv none builtinsNs) (fun env' s₂ => s₂.heap.NoLimit ∧ codeAny (model prog w) A (.func body env') R s₂) E s := by
  obtain ⟨FG, BG, st, lv⟩ := groundX (R := R) B F N hA hf hke
  refine wpAny_newFunctionEnv_cells hk (hkind _) fun env' he s' x => ?_
  subst he
  refine ⟨(hlim.keeps F.keep).keeps x.toInCall.keep, codeAny_func ?_⟩
  obtain ⟨h₁, tk, rfl, _⟩ := x.done
  have hk₁ := x.toInCall.keep
  obtain ⟨cells, NC, Y⟩ := Cl.news (h₀ := s.heap) (Nat.le_refl _) fun n c hm => ⟨x.cell n c (lookup_of_mem_nodup (cellsFrom_names scope.names 0 (s.heap.objs.size + 1) [] [] rfl ▸ hnd) hm), x.above n c hm⟩
  refine wpAny_mono (h _ s.heap.objs.size h₁ tk cells FG ⟨x.toInCall.ns, fun b o e => hk₁ b o (of_hideAll _ e), Nat.le_of_eq (hideAll_size _ _)⟩ (fun p hp => ?_) Y BG st (fun p hp => Heap.lt_size (N p hp).1)) (fun fl s' hl => lv _ _ hl) fun _ _ y => y
  rcases List.mem_append.mp hp with hp | hp
  · refine ⟨(NC p hp).1, (NC p hp).2.1, ?_⟩
    cases q : (hideAll s.heap (news.map (·.1))).get? p.1 with
    | none => rfl
    | some o => have := of_hideAll _ q; rw [(NC p hp).2.2] at this; cases this
  · exact ⟨hk₁ _ _ (N p hp).1, Nat.ne_of_lt (Heap.lt_size (N p hp).1), hideAll_none _ (List.mem_map_of_mem hp)⟩

/-- a def with *rest whose parameters may be cells -/
theorem rest_cells {vs : List Value} {g₁ : Addr → Option (List (Str × Value))} {binds : Addr → List (Str × Value)}
    (B : Below A₀ base outer h₀) (F : Fr h₀ L s.heap m) (X₀ : K.In h₀) (N : News h₀ L s.heap news) (T : Top p loose mean mg mb h₀) (hA : A.frames = some (env :: outer)) (hf : env.frame = some L) (hke : env.scope.kind = .function)
    (ho : K.lookup f = some ⟨oc, od, .func (fnOf name qual params body scope dV kV doc pm an cdv ct), osl⟩) (hcd : codeIn K cdv qual = true) (hroom : A.depth < recursionLimit)
    (hv : args.pos.drop (params.posonlyargs.length + params.args.length) = vs)
    (hp : peek1 K ⟨prog, w.params⟩ (bindArgs (fnOf name qual params body scope dV kV doc pm an cdv ct) args) = some (({ cls := .type "tuple", data := .seq vs.toArray } : Obj), g₁))
    (hg : ∀ D, g₁ D = some (binds D)) (hkind : ∀ D, ((binds D).all fun y => scope.names.lookup y.1 == some .local || scope.names.lookup y.1 == some .cell) = true)
    (hnd : ((cellsFrom 0 scope.names []).map (·.1)).Nodup)
    (h : ∀ D g L' h₁ tk cells, (∀ p ∈ news, p.1 < D) → @LT.lt Nat _ D L' → Fr h₀ L g m → Fr g L' h₁ (bindL (envOfC qual scope L' f cdv).kindOf (binds D) fun _ => none) → News g L' h₁ (cells ++ (D, ({ cls := .type "tuple", data := .seq vs.toArray } : Obj)) :: news) →
      CellsAre (bindC (envOfC qual scope L' f cdv).kindOf (binds D) fun _ => none) (cellsFrom (L' + 1) scope.names []) cells → Below A base (env :: outer) g → K.In g → Top p loose mean mg mb g → (∀ p ∈ news, p.1 < L') →
      wpAny (model prog w) (A.deeper (envOfC qual scope L' f cdv)) (execs body (envOfC qual scope L' f cdv))
        (fun fl s' => LeaveK h₀ L m g R (match fl with | .ret v => v | _ => .none) s')
        (fun e s' => wpAny (model prog w) (A.deeper (envOfC qual scope L' f cdv)) (leaving (envOfC qual scope L' f cdv) e) (fun _ s'' => R (.error e) s'') (fun e' s'' => R (.error e') s'') s')
        { s with heap := h₁, toks := tk })
    (hco : scope.isCoroutine = false) (hgen : scope.isGenerator = false) (hk : scope.kind = .function) : codeAny (model prog w) A (.call (.ref f) args) R s := by
  have _ := hv
  refine codeAny_call_function (fd := fnOf name qual params body scope dV kV doc pm an cdv ct) (body := body) hroom ((X₀.keeps F.keep) _ _ ho) rfl hco hgen rfl (codeRec_of (X₀.keeps F.keep) hcd) ?_
  refine wp_of_peek1 (o := ({ cls := .type "tuple", data := .seq vs.toArray } : Obj)) F N (X₀.keeps F.keep) rfl (r := binds) (fun D h' F' N' l => ?_) _ g₁ hp hg
  refine frame_cells (s := { s with heap := h' }) B F' N' T.nolimit hA hf hke (kindsX (hkind D)) hnd (fun g L' h₁ tk cells FG FL NC Y BG st lt => ?_) hk
  exact h D g L' h₁ tk cells l (lt _ List.mem_cons_self) FG FL NC Y BG (X₀.keeps st) (T.keeps st) fun p hp => lt p (.tail _ hp)
end
end Mine

-- MIdent
namespace Mine
open PySem PySem.W PySem.Calls PyProof.Rows
local macro_rules | `(tactic| walk_at "mine enter") => `(tactic| (refine' code_def ?k1 ?k2 ?k3 ?k4 ?k5 ?kA ?kF ?kK ?k6 ?k7 ?k8 ?k9 ?kB ?_ ?c2 ?c3 ?c4 ?c5; (case kA => exact rfl); (case kF => exact rfl); (case kK => assumption); (case k1 => k_asm); (case k2 => k_asm); (case k3 => k_asm); (case k4 => k_asm); (case k5 => k_asm); (case k6 => k_is); (case k7 => k_is); (case k8 => ktr_room); (case k9 => first | exact BindsTo.of_eq rfl | exact binds_K (by k_in) rfl (by k_is) rfl rfl rfl); (case c5 => decide); (case kB => exact locs rfl); (case c2 => exact rfl); (case c3 => exact rfl); (case c4 => exact rfl); k_whole; intro g' L' h' FG' F' N' B' X' T'; (try dsimp only); (try k_lift B'); (try k_fold)))
local macro_rules | `(tactic| walk_at "mine enterC") => `(tactic| (refine' code_defC ?k1 ?k2 ?k3 ?k4 ?k5 ?kA ?kF ?kK ?k6 ?k7 ?k8 ?k9 ?kB ?kD ?_ ?c2 ?c3 ?c4; (case kA => exact rfl); (case kF => exact rfl); (case kK => assumption); (case k1 => k_asm); (case k2 => k_asm); (case k3 => k_asm); (case k4 => k_asm); (case k5 => k_asm); (case k6 => k_is); (case k7 => k_is); (case k8 => ktr_room); (case k9 => exact BindsTo.of_eq rfl); (case kB => exact rfl); (case kD => decide +kernel); (case c2 => exact rfl); (case c3 => exact rfl); (case c4 => exact rfl); k_whole; intro g' L' h' tk' cells' FG' F' N' Y' B' X' T' l1; (try k_lt l1); k_cells Y'; (try simp only [List.cons_append, List.nil_append] at N'); (try dsimp only); (try k_lift B'); (try k_fold)))
local macro_rules | `(tactic| walk_at "mine enterR") => `(tactic| (refine' kp_rest ?k1 ?k2 ?k3 ?k4 ?k5 ?kA ?kF ?kK ?k6 ?k7 ?k8 ?kV ?kP ?kG ?kB ?_ ?c2 ?c3 ?c4 ?c5; (case kA => exact rfl); (case kF => exact rfl); (case kK => assumption); (case k1 => k_asm); (case k2 => k_asm); (case k3 => k_asm); (case k4 => k_asm); (case k5 => k_asm); (case k6 => k_is); (case k7 => k_is); (case k8 => ktr_room); (case kV => kl_lit); (case kP => exact rfl); (case kG => exact fun _ => rfl); (case kB => exact fun _ => locs rfl); (case c5 => decide); (case c2 => exact rfl); (case c3 => exact rfl); (case c4 => exact rfl); k_whole; intro D' g' L' h' l1 FG' F' N' B' X' T'; (try k_lt l1); (try dsimp only); (try k_lift B'); (try k_fold)))
local macro_rules | `(tactic| walk_at "mine enterRC") => `(tactic| (refine' rest_cells ?k1 ?k2 ?k3 ?k4 ?k5 ?kA ?kF ?kK ?k6 ?k7 ?k8 ?kV ?kP ?kG ?kB ?kD ?_ ?c2 ?c3 ?c4; (case kA => exact rfl); (case kF => exact rfl); (case kK => assumption); (case k1 => k_asm); (case k2 => k_asm); (case k3 => k_asm); (case k4 => k_asm); (case k5 => k_asm); (case k6 => k_is); (case k7 => k_is); (case k8 => ktr_room); (case kV => kl_lit); (case kP => exact rfl); (case kG => exact fun _ => rfl); (case kB => exact fun _ => rfl); (case kD => decide +kernel); (case c2 => exact rfl); (case c3 => exact rfl); (case c4 => exact rfl); k_whole; intro D' g' L' h' tk' cells' l0 lD FG' F' N' Y' B' X' T' l1; (try k_lt l0); (try k_lt l1); k_cells Y'; (try simp only [List.cons_append, List.nil_append] at N'); (try dsimp only); (try k_lift B'); (try k_fold)))

section
variable {prog : Program} {w : World} {A : Around} {E : Value → Shared → Prop} {s : Shared} {h₀ : Heap} {L : Addr} {m : Str → Option Value} {news : List (Addr × Obj)}
/-- `set(t)` of a tuple of two texts, over the ledger -/
theorem set_pair_N {D : Addr} {x y : Str} {tx ty : Tok} {nt : Nat} {Q : Value → Shared → Prop} (F : Fr h₀ L s.heap m) (N : News h₀ L s.heap news) (hh : A.handled = none)
    (hm : (D, ({ cls := .type "tuple", data := .seq #[.str x tx, .str y ty] nt } : Obj)) ∈ news)
    (h : ∀ S o h' tk, Fr h₀ L h' m → News h₀ L h' ((S, o) :: news) → (∀ p ∈ news, p.1 < S) →
      o.SetObjOf (PySem.strKind prog w) (fun k => (false || decide (k = x)) || decide (k = y)) (if (false || decide (y = x)) = true then 1 else 2) → Q (.ref S) { s with heap := h', toks := tk }) :
    wpAny (model prog w) A (call (.type "set") [.ref D]) Q E s := by
  refine set_pair hh (N _ hm).1 fun h' tk hk hS => ?_
  obtain ⟨o, ho, hso⟩ := hS.objOf
  obtain ⟨oL, _, _, hL, _⟩ := F.ns
  have hLlt : L < s.heap.objs.size := Heap.lt_size hL
  refine h _ o h' tk ⟨F.ns.at' fun o' e => hk L o' hLlt e, fun b o' e => hk b o' (Heap.lt_size (F.keep b o' e)) (F.keep b o' e), F.above⟩ (fun p hp => ?_) (fun p hp => Heap.lt_size (N p hp).1) hso
  rcases List.mem_cons.mp hp with rfl | hp
  · exact ⟨ho, Nat.ne_of_gt hLlt, next_is_new F⟩
  · exact ⟨hk _ _ (Heap.lt_size (N p hp).1) (N p hp).1, (N p hp).2⟩
theorem len_set_N {S : Addr} {o : Obj} {f : Str → Bool} {n : Nat} {Q : Value → Shared → Prop} (N : News h₀ L s.heap news) (hm : (S, o) ∈ news) (hso : o.SetObjOf (PySem.strKind prog w) f n) (hfit : (n : Int) < 2 ^ 63)
    (h : Q (.int n (s.toks + 1)) { s with toks := s.toks + 1 + 1 }) : wpAny (model prog w) A (call (.builtin "len") [.ref S]) Q E s := by
  obtain ⟨hex, es, ep, t, hd, _, _, hn, hf⟩ := hso
  subst hn
  exact call_len_set (N _ hm).1 hex hd hf hfit h
end
theorem pair_count (x y : Str) : (((if (false || decide (y = x)) = true then 1 else 2 : Nat) : Int) == 1) = decide (x = y) := by
  by_cases h : x = y
  · subst h; simp
  · have h' : ¬ y = x := fun e => h e.symm
    simp [h, h']
theorem pair_fit (x y : Str) : (((if (false || decide (y = x)) = true then 1 else 2 : Nat) : Int)) < 2 ^ 63 := by split <;> decide

local macro_rules | `(tactic| walk_at "call type:set cons nil") => `(tactic| (k_here; (with_reducible show wpAny _ _ (call (Value.type "set") [Value.ref _]) _ _ _); k_dflt (refine' set_pair_N ?k1 ?k2 ?k3 ?k4 ?_; (case k1 => k_asm); (case k2 => k_asm); (case k3 => exact rfl); (case k4 => k_mem); k_whole); intro S' o' h' tk' F' N' l1 hso'; (try k_lt l1)))
local macro_rules | `(tactic| walk_at "call builtin:len") => `(tactic| (k_here; (with_reducible show wpAny _ _ (call (Value.builtin _) [Value.ref _]) _ _ _); (with_reducible rename Obj.SetObjOf _ _ _ _ => hsoR); k_dflt (refine' len_set_N ?k1 ?k2 hsoR ?k3 ?_; (case k1 => k_asm); (case k2 => k_mem); (case k3 => exact pair_fit _ _); k_whole)))

set_option maxRecDepth 100000 in
set_option maxHeartbeats 8000000 in
theorem ident_spec {w : World} {p : Program} {loose : List Str} {mean : ExcName → Option Value} {mg mb : Str → Option Value} {news : List (Addr × Obj)}
   {dp un : Nat} {gd : Option (List Code)} {cn : Str} {cs : Scope} {a : Addr} {ccd : Value} {cl : List (Str × Addr)} {outer : List Env} {A₀ : Around} {base h₀ : Heap} {L : Addr} {m : Str → Option Value} {s : Shared} {R : Result → Shared → Prop} {x y : Str} {tx ty : Tok}
   (B : Below A₀ base outer h₀) (F : Fr h₀ L s.heap m) (X : (hd.heap_39 w.params).In h₀) (N : News h₀ L s.heap (news)) (T : Top p loose mean mg mb h₀) (hck : cs.kind = .function)
   (hroom : dp + 1 < recursionLimit) (hunits : un + 8 < cLine) 
   (hret : ∀  h' tk', Fr h₀ L h' m → News h₀ L h' (news) → R (.ok (.ret (.bool (decide (x = y))))) { s with heap := h', toks := tk' }) :
   codeAny (model PySem.Challenge.rw_br0031_01.row.prog w) (ktrTop dp un gd cn cs L a ccd cl outer) (.call (.ref 95) ⟨[.str x tx, .str y ty], []⟩) R s := by
  w_top off
  revert X; k_fill; intro X
  k_dflt walk_at "mine enterR"
  k_steps
  rw [pair_count]
  (refine' hret _ _  ?e2 ?e3; (case e2 => k_asm); (case e3 => first | k_asm | (refine' cb_drop ?cbN ?cbS; (case cbN => assumption); (case cbS => kcj_all))))
end Mine

-- MLam
namespace Mine
open PySem PySem.W PySem.Calls PyProof.Rows PySem.Spec
set_option maxRecDepth 100000
/-- what r_cost's table of code objects may hold, with its code objects -/
def TabsOk (q : Str) (tabs : List (Addr × Obj)) : Prop :=
  ∃ ps codes, tabs = (172, tabObj ps) :: codes ∧ TriplesOk ps.toList ∧ (∀ p ∈ codes, p.1 ≠ 172) ∧
    ∀ pos v, codeAmong pos ps.toList = some v → ∃ c' oc vs t, v = .ref c' ∧ (c', oc) ∈ codes ∧ oc.data = .fields vs ∧ vs[1]? = some (.str q t)
theorem TabsOk.start (q : Str) : TabsOk q [(172, tabObj #[])] := ⟨#[], [], rfl, trivial, (fun _ h => (nomatch h)), (fun pos v h => by cases h)⟩

theorem triples_snoc (a b : Int) (t u : Tok) (c : Value) : ∀ l : List Value, TriplesOk l → TriplesOk (l ++ [.int a t, .int b u, c]) := by
  intro l h
  fun_induction TriplesOk l with
  | case1 => exact trivial
  | case2 a' t' b' u' x rest ih => exact ih h
  | case3 => exact h.elim
theorem among_snoc (a b : Int) (t u : Tok) (c v : Value) (pos : Pos) : ∀ l : List Value, TriplesOk l → codeAmong pos (l ++ [.int a t, .int b u, c]) = some v → codeAmong pos l = some v ∨ v = c := by
  intro l h e
  fun_induction TriplesOk l with
  | case1 =>
    simp only [List.nil_append, codeAmong] at e
    split at e
    · exact .inr (Option.some.inj e).symm
    · cases e
  | case2 a' t' b' u' x rest ih =>
    simp only [List.cons_append, codeAmong] at e ⊢
    split at e
    · rename_i h1; rw [if_pos h1]; exact .inl e
    · rename_i h1; rw [if_neg h1]; exact ih h e
  | case3 => exact h.elim

/-- a ledger that bears the segment tabs, all else off 172 -/
inductive SegF (tabs : List (Addr × Obj)) : List (Addr × Obj) → (List (Addr × Obj) → List (Addr × Obj)) → Prop
  | here {news : List (Addr × Obj)} : (∀ p ∈ news, p.1 ≠ (172 : Nat)) → SegF tabs (tabs ++ news) (fun t => t ++ news)
  | there {p : Addr × Obj} {led : List (Addr × Obj)} {g : List (Addr × Obj) → List (Addr × Obj)} : @Ne Nat p.1 172 → SegF tabs led g → SegF tabs (p :: led) (fun t => p :: g t)
theorem SegF.split {tabs led : List (Addr × Obj)} {g : List (Addr × Obj) → List (Addr × Obj)} (S : SegF tabs led g) :
    ∃ own rest, led = own ++ (tabs ++ rest) ∧ (∀ t, g t = own ++ (t ++ rest)) ∧ (∀ p ∈ own, p.1 ≠ (172 : Nat)) ∧ (∀ p ∈ rest, p.1 ≠ (172 : Nat)) := by
  induction S with
  | here h => exact ⟨[], _, rfl, (fun _ => rfl), (fun _ hp => (nomatch hp)), h⟩
  | there hp _ ih =>
    obtain ⟨own, rest, rfl, hg, h1, h2⟩ := ih
    refine ⟨_ :: own, rest, rfl, (fun t => by show _ :: _ = _; rw [hg]; rfl), fun q hq => ?_, h2⟩
    rcases List.mem_cons.mp hq with rfl | hq
    · exact hp
    · exact h1 q hq
theorem updF_at {P : Addr} {o : Obj} {rest : List (Addr × Obj)} (h2 : ∀ p ∈ rest, p.1 ≠ P) : ∀ own : List (Addr × Obj), (∀ p ∈ own, p.1 ≠ P) → UpdF P o (own ++ (P, o) :: rest) (fun o' => own ++ (P, o') :: rest)
  | [], _ => UpdF.head h2
  | q :: own, h1 => UpdF.tail (h1 q (.head _)) (updF_at h2 own fun p hp => h1 p (.tail _ hp))

/-- the table as a call found it (t0) and as it stands now: its entries are old ones or younger than all of N0 -/
structure Tabs (q : Str) (t0 N0 tabs : List (Addr × Obj)) : Prop where
  ok : TabsOk q tabs
  up : ∀ p ∈ tabs, (∃ r ∈ t0, r.1 = p.1) ∨ ∀ r ∈ N0, r.1 < p.1
theorem Tabs.start {q : Str} {t0 N0 : List (Addr × Obj)} (h : TabsOk q t0) : Tabs q t0 N0 t0 := ⟨h, fun p hp => .inl ⟨p, hp, rfl⟩⟩
theorem Tabs.trans {q : Str} {t0 N0 N1 t1 t2 : List (Addr × Obj)} (h : Tabs q t0 N0 t1) (h2 : Tabs q t1 N1 t2) (hs : ∀ p ∈ N0, ∃ r ∈ N1, r.1 = p.1) : Tabs q t0 N0 t2 := ⟨h2.ok, fun p hp => by
  rcases h2.up p hp with ⟨r, hr, e⟩ | e
  · rw [← e]; exact h.up r hr
  · refine .inr fun r hr => ?_
    obtain ⟨r', hr', e'⟩ := hs r hr
    rw [← e']; exact e r' hr'⟩
theorem Tabs.off {q : Str} {t0 N0 t1 : List (Addr × Obj)} (h : Tabs q t0 N0 t1) {b : Addr} (hb : ∀ p ∈ t0, p.1 ≠ b) (hm : ∃ r ∈ N0, r.1 = b) : ∀ p ∈ t1, p.1 ≠ b := fun p hp => by
  rcases h.up p hp with ⟨r, hr, e⟩ | e
  · rw [← e]; exact hb r hr
  · obtain ⟨r, hr, e'⟩ := hm
    rw [← e']; exact Nat.ne_of_gt (e r hr)
theorem tabs_off {led tabs tabs' : List (Addr × Obj)} {b : Addr} {o : Obj} (hl : ∀ p ∈ tabs', (∃ q ∈ tabs, q.1 = p.1) ∨ ∀ q ∈ led, q.1 < p.1) (hb : ∀ p ∈ tabs, p.1 ≠ b) (hm : (b, o) ∈ led) : ∀ p ∈ tabs', p.1 ≠ b := fun p hp => by
  rcases hl p hp with ⟨r, hr, e⟩ | e
  · rw [← e]; exact hb r hr
  · exact Nat.ne_of_gt (e _ hm)

section
variable {M : Model} {A : Around} {E : Value → Shared → Prop} {s : Shared} {h₀ : Heap} {L a : Addr} {m mg mb : Str → Option Value} {cn : Str} {cs : Scope} {cl : List (Str × Addr)} {led tabs : List (Addr × Obj)} {g : List (Addr × Obj) → List (Addr × Obj)}
  {p : Program} {loose : List Str} {mean : ExcName → Option Value} {params : Arguments} {body : Expr} {scope : Scope} {pos : Pos} {clos : List (Str × Addr)}
/-- a lambda of r_cost's is made -/
theorem lam_eval {Q : Value → Shared → Prop} (F : Fr h₀ L s.heap m) (N : News h₀ L s.heap led) (T : Top p loose mean mg mb h₀) (C : CodeHd h₀ 176 172) (S : SegF tabs led g) (hT : TabsOk ((envX cn cs L a (.ref 176) cl).qual ++ "<lambda>") tabs)
    (hdef : defaultsOf params (envX cn cs L a (.ref 176) cl) = ([], [])) (hcl : closureFor scope (envX cn cs L a (.ref 176) cl) = pure clos)
    (h : ∀ f c' oc vs t ctv tabs' h' tk, Fr h₀ L h' m →
      News h₀ L h' ((f, kla_obj "<lambda>" ((envX cn cs L a (.ref 176) cl).qual ++ "<lambda>") params body scope clos ((mg "__name__").getD .none) c' ctv) :: g tabs') →
      TabsOk ((envX cn cs L a (.ref 176) cl).qual ++ "<lambda>") tabs' → (c', oc) ∈ tabs' →
      oc.data = .fields vs → vs[1]? = some (.str ((envX cn cs L a (.ref 176) cl).qual ++ "<lambda>") t) → (∀ q ∈ led, q.1 < f) → (∀ p ∈ tabs', (∃ q ∈ tabs, q.1 = p.1) ∨ ∀ q ∈ led, q.1 < p.1) → Q (.ref f) { s with heap := h', toks := tk }) :
    wpAny M A (eval (.Lambda params body scope pos) (envX cn cs L a (.ref 176) cl)) Q E s := by
  refine kla_eval hdef ?_
  obtain ⟨own, rest, rfl, hg, h1, h2⟩ := S.split
  obtain ⟨ps, codes, rfl, ht, h3, ha⟩ := hT
  cases hq : codeAmong pos ps.toList with
  | none =>
    have h4 : ∀ p ∈ codes ++ rest, p.1 ≠ (172 : Nat) := fun p hp => (List.mem_append.mp hp).elim (h3 p) (h2 p)
    refine kla_nest F N T C rfl (updF_at (o := tabObj ps) h4 own h1) ht hq hcl fun f c' oc vs t ctv h' tk F' N' hd hv hlt hcf => ?_
    have h172 : (172 : Nat) < c' := hlt (172, tabObj ps) (List.mem_append_right _ (List.mem_append_left _ (.head _)))
    refine h f c' oc vs t ctv ((172, tabObj (ps ++ #[rawInt pos.line, rawInt pos.col, .ref c'])) :: (c', oc) :: codes) h' tk F' ?_ ?_ (.tail _ (.head _)) hd hv (fun q hq => Nat.lt_trans (hlt q hq) hcf) ?_
    · rw [hg]
      intro q hq
      refine N' q ?_
      simp only [List.mem_cons, List.mem_append] at hq ⊢
      rcases hq with hq | hq | (hq | hq | hq) | hq
      · exact .inl hq
      · exact .inr (.inr (.inl hq))
      · exact .inr (.inr (.inr (.inl hq)))
      · exact .inr (.inl hq)
      · exact .inr (.inr (.inr (.inr (.inl hq))))
      · exact .inr (.inr (.inr (.inr (.inr hq))))
    · refine ⟨_, _, rfl, ?_, fun q hq => ?_, fun pos' v e => ?_⟩
      · rw [Array.toList_append]; exact triples_snoc _ _ _ _ _ _ ht
      · rcases List.mem_cons.mp hq with rfl | hq
        · exact Nat.ne_of_gt h172
        · exact h3 q hq
      · rw [Array.toList_append] at e
        rcases among_snoc _ _ _ _ _ _ _ _ ht e with e | rfl
        · obtain ⟨c₂, oc₂, vs₂, t₂, e1, e2, e3, e4⟩ := ha _ _ e
          exact ⟨c₂, oc₂, vs₂, t₂, e1, .tail _ e2, e3, e4⟩
        · exact ⟨c', oc, vs, t, rfl, .head _, hd, hv⟩
    · intro q hq
      rcases List.mem_cons.mp hq with rfl | hq
      · exact .inl ⟨_, .head _, rfl⟩
      · rcases List.mem_cons.mp hq with rfl | hq
        · exact .inr hlt
        · exact .inl ⟨q, .tail _ hq, rfl⟩
  | some v =>
    obtain ⟨c', oc, vs, t, rfl, hm, hd, hv⟩ := ha _ _ hq
    refine kla_hit F N T C rfl (List.mem_append_right _ (List.mem_append_left _ (.head _))) ht hq hcl fun f ctv h' tk F' N' hlt => ?_
    refine h f c' oc vs t ctv ((172, tabObj ps) :: codes) h' tk F' ?_ ⟨ps, codes, rfl, ht, h3, ha⟩ (.tail _ hm) hd hv hlt fun q hq => .inl ⟨q, hq, rfl⟩
    rw [hg]
    exact N'
/-- the same, with what has become of the table since the call -/
theorem lam_evalT {t0 N0 : List (Addr × Obj)} {Q : Value → Shared → Prop} (F : Fr h₀ L s.heap m) (N : News h₀ L s.heap led) (T : Top p loose mean mg mb h₀) (C : CodeHd h₀ 176 172) (S : SegF tabs led g) (hT : Tabs ((envX cn cs L a (.ref 176) cl).qual ++ "<lambda>") t0 N0 tabs) (hN0 : ∀ p ∈ N0, p ∈ led)
    (hdef : defaultsOf params (envX cn cs L a (.ref 176) cl) = ([], [])) (hcl : closureFor scope (envX cn cs L a (.ref 176) cl) = pure clos)
    (h : ∀ f c' oc vs t ctv tabs' h' tk, Fr h₀ L h' m →
      News h₀ L h' ((f, kla_obj "<lambda>" ((envX cn cs L a (.ref 176) cl).qual ++ "<lambda>") params body scope clos ((mg "__name__").getD .none) c' ctv) :: g tabs') →
      Tabs ((envX cn cs L a (.ref 176) cl).qual ++ "<lambda>") t0 N0 tabs' → (c', oc) ∈ tabs' →
      oc.data = .fields vs → vs[1]? = some (.str ((envX cn cs L a (.ref 176) cl).qual ++ "<lambda>") t) → (∀ q ∈ led, q.1 < f) → (∀ p ∈ tabs', (∃ q ∈ tabs, q.1 = p.1) ∨ ∀ q ∈ led, q.1 < p.1) → Q (.ref f) { s with heap := h', toks := tk }) :
    wpAny M A (eval (.Lambda params body scope pos) (envX cn cs L a (.ref 176) cl)) Q E s :=
  lam_eval F N T C S hT.ok hdef hcl fun f c' oc vs t ctv tabs' h' tk F' N' hk hm hd hv hlt hl => h f c' oc vs t ctv tabs' h' tk F' N' ⟨hk, fun p hp => by
    rcases hl p hp with ⟨r, hr, e⟩ | e
    · rw [← e]; exact hT.up r hr
    · exact .inr fun r hr => e r (hN0 r hr)⟩ hm hd hv hlt hl
end
end Mine

-- MFor
namespace Mine
open PySem PySem.W PySem.Calls PyProof.Rows PySem.Spec
set_option maxRecDepth 100000
section
variable {prog : Program} {w : World} {A : Around} {E : Value → Shared → Prop} {s : Shared}
theorem pyNext_tup_item {it D : Addr} {i : Nat} {items : Array Value} {x : Value} {Q : Option Value → Shared → Prop} (ho : s.heap.get? it = some (tupIt D i))
    (hl : s.heap.IsTuple D items) (hx : items[i]? = some x)
    (hQ : ∀ h', h'.get? it = some (tupIt D (i + 1)) → Heap.SameBut it s.heap h' → Q (some x) { s with heap := h' }) :
    wpAny (model prog w) A (pyNext (.ref it)) Q E s := by
  have hit : s.TypeIs (.ref it) "tuple_iterator" := ⟨_, ho, rfl⟩
  obtain ⟨ol, hol, _, nl, hdl⟩ := hl
  unfold pyNext
  refine wpAny_bind (wpAny_attempt (wpAny_callSpecial?_slot (name := Str.ofString "__next__") hit F.slot_tuple_iterator_next
    (wpAny_call_entry F.slot_tuple_iterator_next hit F.entry_tuple_iterator_next ?_ (F.args_tuple_iterator_next_1 _))))
  show wpAny _ _ (field (.ref it) 0 >>= _) _ _ s
  refine wpAny_bind (wpAny_field ho rfl (x := .ref D) rfl ?_)
  show wpAny _ _ (if (Value.ref D == Value.none) = true then _ else _) _ _ s
  rw [if_neg (show ¬ ((Value.ref D == Value.none) = true) from Bool.false_ne_true)]
  show wpAny _ _ (field (.ref it) 1 >>= _) _ _ s
  refine wpAny_bind (wpAny_field ho rfl (x := .int i 0) rfl ?_)
  show wpAny _ _ (seqItems? (.ref D) >>= _) _ _ s
  refine wpAny_bind (wpAny_seqItems hol hdl ?_)
  simp only [Int.toNat_natCast, hx]
  refine wpAny_bind (wpAny_setField_rec ho (by simp) fun h' hi' hs' => wpAny_pure ⟨x, rfl, wpAny_pure (hQ h' ?_ hs')⟩)
  rw [hi']
  rfl

variable {h₀ : Heap} {L a c T0 : Addr} {m : Str → Option Value} {cn : Str} {cs : Scope} {ccd : Value} {cl : List (Str × Addr)} {x : Str} {px pos : Pos} {iter : Expr} {body : List Stmt} {its : List Value} {rest0 : List (Addr × Obj)} {o0 : Obj} {Q : Flow → Shared → Prop}
/-- the ledger at a turn's end -/
def TurnEnd (h₀ : Heap) (L : Addr) (m : Str → Option Value) (I T0 : Addr) (k : Nat) (c : Addr) (J : List (Addr × Obj) → Prop) (s s' : Shared) : Prop :=
  ∃ rest o v h tk, s' = { s with heap := h, toks := tk } ∧ Fr h₀ L h m ∧ News h₀ L h ((I, tupIt T0 k) :: (c, o) :: rest) ∧ o.data = .cell v ∧ (∀ p ∈ rest, p.1 ≠ c ∧ p.1 ≠ I) ∧ J rest
/-- `for x in t:` over a tuple of the base's, x a cell -/
theorem for_tup_cell (J : Nat → List (Addr × Obj) → Prop) (hc : cl.lookup x = some c) (hxk : (envX cn cs L a ccd cl).kindOf x = some .cell) (hck : cs.kind = .function) (hh : A.handled = none) (hT : h₀.IsTuple T0 its.toArray)
    (h : wpAny (model prog w) A (eval iter (envX cn cs L a ccd cl)) (fun xv s₁ => xv = .ref T0 ∧ ∃ h tk, s₁ = { s with heap := h, toks := tk } ∧ Fr h₀ L h m ∧ News h₀ L h ((c, o0) :: rest0)) E s)
    (ho0 : ∃ v, o0.data = .cell v) (hr0 : ∀ p ∈ rest0, p.1 ≠ c) (hJ : J 0 rest0)
    (turn : ∀ k v o rest I h tk, its[k]? = some v → J k rest → (∀ p ∈ rest, p.1 ≠ c ∧ p.1 ≠ I) → (∀ p ∈ (c, o0) :: rest0, p.1 < I) → o.data = .cell (some v) → Fr h₀ L h m → News h₀ L h ((I, tupIt T0 (k + 1)) :: (c, o) :: rest) →
      wpAny (model prog w) A (execs body (envX cn cs L a ccd cl)) (fun f s' => match f with
        | .ret r => Q (.ret r) s'
        | .brk => Q .next s'
        | _ => TurnEnd h₀ L m I T0 (k + 1) c (J (k + 1)) s s') (fun _ _ => False) { s with heap := h, toks := tk })
    (done : ∀ o v rest h tk, J its.length rest → o.data = .cell v → Fr h₀ L h m → News h₀ L h ((c, o) :: rest) → Q .next { s with heap := h, toks := tk })
    (hs : ∀ x, foldedSetIterable iter (envX cn cs L a ccd cl) x = pure x := by intro _; rfl) :
    wpAny (model prog w) A (exec (.For (.Name x px) iter body [] pos) (envX cn cs L a ccd cl)) Q E s := by
  refine wpAny_For (wpAny_mono h (fun xv s₁ h₁ => ?_) fun _ _ e => e) hs
  obtain ⟨rfl, h₁, tk₁, rfl, F₁, N₁⟩ := h₁
  have hT₁ : h₁.IsTuple T0 its.toArray := by obtain ⟨o, e, r⟩ := hT; exact ⟨o, F₁.keep _ _ e, r⟩
  have hT0 : h₀.get? T0 ≠ none := by obtain ⟨o, e, _⟩ := hT; rw [e]; simp
  refine wpAny_pyIter_tuple hT₁ ?_
  have hlt : ∀ p ∈ (c, o0) :: rest0, p.1 < h₁.objs.size := fun p hp => Heap.lt_size (N₁ p hp).1
  have N₂ := N₁.push F₁ (tupIt T0 0)
  have F₂ := F₁.push (tupIt T0 0)
  obtain ⟨v0, hv0⟩ := ho0
  have NE : ∀ {α : Type} {t : Sem α} {Q' : α → Shared → Prop} {E' : Value → Shared → Prop} {s' : Shared}, wpAny (model prog w) A t Q' (fun _ _ => False) s' → wpAny (model prog w) A t Q' E' s' := fun z => wpAny_mono z (fun _ _ x => x) fun _ _ x => x.elim
  show codeAny (model prog w) A (.forLoop (.Name x px) (.ref h₁.objs.size) body [] (envX cn cs L a ccd cl)) _ _
  generalize hI : h₁.objs.size = I at hlt N₂
  refine codeAny_forLoop_any (fun n s' => ∃ k, k ≤ its.length ∧ n = its.length - k ∧ TurnEnd h₀ L m I T0 k c (J k) s s') ?_ its.length
    ⟨0, Nat.zero_le _, rfl, rest0, o0, v0, _, tk₁, rfl, F₂, N₂, hv0, fun p hp => ⟨hr0 p hp, Nat.ne_of_lt (hlt p (.tail _ hp))⟩, hJ⟩
  rintro n s' ⟨k, hk, rfl, rest, o, v, h, tk, rfl, F, N, hd, hoff, hj⟩
  have NI := N _ List.mem_cons_self
  have NC := N (c, o) (.tail _ (.head _))
  have hIc : c ≠ I := fun q => absurd (hlt (c, o0) (.head _)) (by rw [q]; exact Nat.lt_irrefl _)
  have hTt : h.IsTuple T0 its.toArray := by obtain ⟨o, e, r⟩ := hT; exact ⟨o, F.keep _ _ e, r⟩
  by_cases hlt' : k < its.length
  · refine NE ?_
    refine pyNext_tup_item (s := { s with heap := h, toks := tk }) NI.1 hTt (x := its[k]) (by simp [hlt']) fun h₃ hi₃ hs₃ => ?_
    have F₃ : Fr h₀ L h₃ m := F.change hs₃ NI.2.1 NI.2.2
    have N₃ : News h₀ L h₃ ((I, tupIt T0 (k + 1)) :: (c, o) :: rest) := fun p hp => by
      rcases List.mem_cons.mp hp with rfl | hp
      · exact ⟨hi₃, NI.2⟩
      · have z := N p (.tail _ hp)
        refine ⟨(hs₃.2 _ ?_).trans z.1, z.2⟩
        rcases List.mem_cons.mp hp with rfl | hp
        · exact hIc
        · exact (hoff p hp).2
    dsimp only
    show wpAny _ A (pure ()) _ _ _
    refine wpAny_pure ?_
    refine wpAny_assign_Name (storeX_C F₃ N₃ hc (.tail (Ne.symm hIc) (.head fun p hp => (hoff p hp).1)) hd (fun h₄ o₄ F₄ N₄ d₄ => ?_) hck hxk)
    refine NE (wpAny_mono (turn k its[k] o₄ rest I h₄ tk (by simp [hlt']) hj hoff hlt d₄ F₄ N₄) (fun f s₅ q => ?_) fun _ _ x => x)
    cases f with
    | next => exact ⟨its.length - (k + 1), by omega, k + 1, hlt', rfl, q⟩
    | cont => exact ⟨its.length - (k + 1), by omega, k + 1, hlt', rfl, q⟩
    | brk => exact q
    | ret v => exact q
  · obtain rfl : k = its.length := by omega
    refine NE ?_
    refine wpAny_pyNext_tuple_end (s := { s with heap := h, toks := tk }) hh ⟨_, NI.1, rfl, rfl⟩ hTt (by simp) fun h₃ hk₃ => ?_
    dsimp only
    show wpAny _ A (pure Flow.next) _ _ _
    refine wpAny_pure (done o v rest h₃ tk hj hd ⟨F.ns.at' fun o e => hk₃ _ o (fun q => NI.2.1 q.symm) e, fun b o e => hk₃ b o (fun q => by rw [q, NI.2.2] at e; cases e) (F.keep b o e), F.above⟩ fun p hp => ?_)
    have z := N p (.tail _ hp)
    refine ⟨hk₃ _ _ ?_ z.1, z.2⟩
    rcases List.mem_cons.mp hp with rfl | hp
    · exact hIc
    · exact (hoff p hp).2
end
end Mine

-- MLoop
namespace Mine
open PySem PySem.W PySem.Calls PyProof.Rows PySem.Spec
set_option maxRecDepth 100000
section
variable {prog : Program} {w : World} {A : Around} {E : Value → Shared → Prop} {s : Shared}
variable {h₀ : Heap} {L a c T0 : Addr} {m : Str → Option Value} {cn : Str} {cs : Scope} {ccd : Value} {cl : List (Str × Addr)} {x : Str} {px pos : Pos} {iter : Expr} {body : List Stmt} {o0 : Obj} {Q : Flow → Shared → Prop}
/-- a turn of the group loop's went on -/
def WentOn (h₀ : Heap) (L : Addr) (m : Str → Option Value) (I T0 : Addr) (k : Nat) (c : Addr) (TP : List (Addr × Obj) → Prop) (fx news : List (Addr × Obj)) (ok : Prop) (s s' : Shared) : Prop :=
  ok ∧ ∃ tabs o v h tk, s' = { s with heap := h, toks := tk } ∧ Fr h₀ L h m ∧ News h₀ L h ((I, tupIt T0 k) :: (c, o) :: (fx ++ (tabs ++ news))) ∧ o.data = .cell v ∧ TP tabs ∧ (∀ p ∈ tabs, p.1 ≠ c ∧ p.1 ≠ I)
theorem group_loop {gs : List (Str × Tok)} {TP : List (Addr × Obj) → Prop} {fx tabs0 news : List (Addr × Obj)} (mt : Str → Bool) (_F : Fr h₀ L s.heap m) (hc : cl.lookup x = some c) (hxk : (envX cn cs L a ccd cl).kindOf x = some .cell) (hck : cs.kind = .function) (hh : A.handled = none)
    (hT : h₀.IsTuple T0 (gs.map fun p => Value.str p.1 p.2).toArray)
    (h : wpAny (model prog w) A (eval iter (envX cn cs L a ccd cl)) (fun xv s₁ => xv = .ref T0 ∧ ∃ h tk, s₁ = { s with heap := h, toks := tk } ∧ Fr h₀ L h m ∧ News h₀ L h ((c, o0) :: (fx ++ (tabs0 ++ news)))) E s)
    (ho0 : ∃ v, o0.data = .cell v) (hfx : ∀ p ∈ fx, p.1 ≠ c) (hnw : ∀ p ∈ news, p.1 ≠ c) (hT0 : TP tabs0) (htc : ∀ p ∈ tabs0, p.1 ≠ c)
    (turn : ∀ k g tg o tabs I h tk, (g, tg) ∈ gs → TP tabs → (∀ p ∈ tabs, p.1 ≠ c ∧ p.1 ≠ I) → (∀ p ∈ (c, o0) :: (fx ++ (tabs0 ++ news)), p.1 < I) → o.data = .cell (some (.str g tg)) → Fr h₀ L h m →
      News h₀ L h ((I, tupIt T0 (k + 1)) :: (c, o) :: (fx ++ (tabs ++ news))) →
      wpAny (model prog w) A (execs body (envX cn cs L a ccd cl)) (fun f s' => match f with
        | .ret r => Q (.ret r) s'
        | .brk => False
        | _ => WentOn h₀ L m I T0 (k + 1) c TP fx news (mt g = false) s s') (fun _ _ => False) { s with heap := h, toks := tk })
    (done : ∀ o v tabs h tk, (∀ p ∈ gs, mt p.1 = false) → TP tabs → o.data = .cell v → Fr h₀ L h m → News h₀ L h ((c, o) :: (fx ++ (tabs ++ news))) → Q .next { s with heap := h, toks := tk })
    (hs : ∀ x, foldedSetIterable iter (envX cn cs L a ccd cl) x = pure x := by intro _; rfl) :
    wpAny (model prog w) A (exec (.For (.Name x px) iter body [] pos) (envX cn cs L a ccd cl)) Q E s := by
  refine for_tup_cell (its := gs.map fun p => Value.str p.1 p.2) (fun k rest => (∀ p ∈ gs.take k, mt p.1 = false) ∧ ∃ tabs, TP tabs ∧ (∀ p ∈ tabs, p.1 ≠ c) ∧ rest = fx ++ (tabs ++ news)) hc hxk hck hh hT h ho0 (fun p hp => ?_) ⟨fun p hp => by simp at hp, tabs0, hT0, htc, rfl⟩ ?_ ?_ hs
  · rcases List.mem_append.mp hp with hp | hp
    · exact hfx p hp
    · rcases List.mem_append.mp hp with hp | hp
      · exact htc p hp
      · exact hnw p hp
  · rintro k v o rest I h tk hv ⟨hm, tabs, hT1, ht1, rfl⟩ hoff hlt hd F N
    rw [List.getElem?_map, Option.map_eq_some_iff] at hv
    obtain ⟨⟨g, tg⟩, hg, rfl⟩ := hv
    refine wpAny_mono (turn k g tg o tabs I h tk (List.mem_of_getElem? hg) hT1 (fun p hp => hoff p (List.mem_append_right _ (List.mem_append_left _ hp))) hlt hd F N) (fun f s' z => ?_) fun _ _ x => x
    have on : WentOn h₀ L m I T0 (k + 1) c TP fx news (mt g = false) s s' → TurnEnd h₀ L m I T0 (k + 1) c ((fun k rest => (∀ p ∈ gs.take k, mt p.1 = false) ∧ ∃ tabs, TP tabs ∧ (∀ p ∈ tabs, p.1 ≠ c) ∧ rest = fx ++ (tabs ++ news)) (k + 1)) s s' := by
      rintro ⟨hok, tabs', o', v', h', tk', rfl, F', N', d', T', off'⟩
      refine ⟨_, o', v', h', tk', rfl, F', N', d', fun p hp => ?_, fun p hp => ?_, tabs', T', fun p hp => (off' p hp).1, rfl⟩
      · rcases List.mem_append.mp hp with hp | hp
        · exact ⟨hfx p hp, Nat.ne_of_lt (hlt p (.tail _ (List.mem_append_left _ hp)))⟩
        · rcases List.mem_append.mp hp with hp | hp
          · exact off' p hp
          · exact ⟨hnw p hp, Nat.ne_of_lt (hlt p (.tail _ (List.mem_append_right _ (List.mem_append_right _ hp))))⟩
      · rw [List.take_add_one, hg] at hp
        rcases List.mem_append.mp hp with hp | hp
        · exact hm p hp
        · have e : p = (g, tg) := by simpa using hp
          rw [e]; exact hok
    cases f with
    | ret r => exact z
    | brk => exact z.elim
    | next => exact on z
    | cont => exact on z
  · rintro o v rest h tk ⟨hm, tabs, hT1, ht1, rfl⟩ hd F N
    refine done o v tabs h tk (fun p hp => hm p ?_) hT1 hd F N
    rw [List.length_map, List.take_length]
    exact hp
end
end Mine

-- MComp
namespace Mine
open PySem PySem.W PySem.Calls PyProof.Rows PySem.Spec
set_option maxRecDepth 100000
/-- a comprehension's turn ends: the ledger is as before, and p holds -/
def InvEl (news : List (Addr × Obj)) (p : Prop) (news' : List (Addr × Obj)) : Prop := news' = news ∧ p
section
variable {prog : Program} {w : World} {A : Around} {E : Value → Shared → Prop} {h₀ : Heap} {L : Addr} {m : Str → Option Value} {env : Env} {ct elt : Expr} {x : Str} {scope : Scope} {cl : List (Str × Addr)} {s s₁ : Shared} {S : List (Addr × Obj) → Prop} {P : Nat → Value → Prop} {Fin : List Value → List (Addr × Obj) → Prop} {news : List (Addr × Obj)}
theorem compEnd_inv {I C D : Addr} {oI oC oD : Obj} {p : Value → Prop} {y : Value} {h' : Heap} {tk : Nat} {all : List (Addr × Obj)}
    (F : Fr h₀ L h' m) (N : News h₀ L h' all) (sub : ∀ p ∈ (I, oI) :: (C, oC) :: (D, oD) :: news, p ∈ all) (off : LCg.Off3 I C D news) (hS : S news) (r : p y) :
    LCg.CompEnd h₀ L m s₁ I oI C oC D oD S (fun y news' => InvEl news (p y) news') y { s₁ with heap := h', toks := tk } := ⟨h', tk, news, rfl, F, fun p hp => N p (sub p hp), off, hS, rfl, r⟩
theorem restU_inv {n : Nat} (Inv : Nat → List Value → Prop) (h0 : Inv 0 [])
    (turn : ∀ i v ys I oI C oC D m₂ h tk (E' : Value → Shared → Prop), i < n → P i v → Inv i ys → LCg.NsObj oC m₂ → m₂ x = some v → Fr h₀ L h m → News h₀ L h ((I, oI) :: (C, oC) :: (D, LCg.lst ys) :: news) → LCg.Off3 I C D news → ((@Ne Nat I C) ∧ (@Ne Nat I D) ∧ (@Ne Nat C D)) →
      wpAny (model prog w) A (eval elt (compEnvC scope cl C env)) (LCg.CompEnd h₀ L m { s with heap := h, toks := tk } I oI C oC D (LCg.lst ys) S (fun y news' => InvEl news (Inv (i + 1) (ys ++ [y])) news')) E' { s with heap := h, toks := tk })
    (fin : ∀ ys, Inv n ys → Fin ys news) : LCg.CompRest prog w A h₀ L m env elt x scope cl s S P Fin n 0 [] news := by
  have key : ∀ (j i : Nat) (ys : List Value), i + j = n → Inv i ys → LCg.CompRest prog w A h₀ L m env elt x scope cl s S P Fin j i ys news := by
    intro j
    induction j with
    | zero =>
      intro i ys hi hy
      obtain rfl : i = n := by omega
      exact LCg.CompRest.zero (fin ys hy)
    | succ j ih =>
      intro i ys hi hy
      refine LCg.CompRest.succ ?_
      intro v I oI C oC D m₂ h tk E' hv hC hx F N off ne
      refine wpAny_mono (turn i v ys I oI C oC D m₂ h tk E' (by omega) hv hy hC hx F N off ne) (fun y s₂ hq => ?_) fun _ _ e => e
      obtain ⟨h', tk', nw, e, F', N', off', hS, hn, hi'⟩ := hq
      rw [hn] at N' off' hS
      exact ⟨h', tk', news, e, F', N', off', hS, ih (i + 1) _ (by omega) hi'⟩
  exact key n 0 [] (by omega) h0
theorem restT_inv {n : Nat} (Inv : Nat → List Value → Prop) (h0 : Inv 0 [])
    (turn : ∀ i v ys I oI C oC D m₂ h tk (E' : Value → Shared → Prop), i < n → P i v → Inv i ys → LCg.NsObj oC m₂ → m₂ x = some v → Fr h₀ L h m → News h₀ L h ((I, oI) :: (C, oC) :: (D, LCg.lst ys) :: news) → LCg.Off3 I C D news → ((@Ne Nat I C) ∧ (@Ne Nat I D) ∧ (@Ne Nat C D)) →
      wpAny (model prog w) A (isTrue ct (compEnvC scope cl C env) (eval ct (compEnvC scope cl C env))) (fun ok s' => if ok = true then
        wpAny (model prog w) A (eval elt (compEnvC scope cl C env)) (LCg.CompEnd h₀ L m { s with heap := h, toks := tk } I oI C oC D (LCg.lst ys) S (fun y news' => InvEl news (Inv (i + 1) (ys ++ [y])) news')) E' s'
        else LCg.CompEnd h₀ L m { s with heap := h, toks := tk } I oI C oC D (LCg.lst ys) S (fun _ news' => InvEl news (Inv (i + 1) ys) news') Value.none s') E' { s with heap := h, toks := tk })
    (fin : ∀ ys, Inv n ys → Fin ys news) : LCt.CompRestT prog w A h₀ L m env ct elt x scope cl s S P Fin n 0 [] news := by
  have key : ∀ (j i : Nat) (ys : List Value), i + j = n → Inv i ys → LCt.CompRestT prog w A h₀ L m env ct elt x scope cl s S P Fin j i ys news := by
    intro j
    induction j with
    | zero =>
      intro i ys hi hy
      obtain rfl : i = n := by omega
      exact LCt.CompRestT.zero (fin ys hy)
    | succ j ih =>
      intro i ys hi hy
      refine LCt.CompRestT.succ ?_
      intro v I oI C oC D m₂ h tk E' hv hC hx F N off ne
      refine wpAny_mono (turn i v ys I oI C oC D m₂ h tk E' (by omega) hv hy hC hx F N off ne) (fun b s₂ hq => ?_) fun _ _ e => e
      cases b with
      | true =>
        simp only [if_true] at hq ⊢
        refine wpAny_mono hq (fun y s₃ hr => ?_) fun _ _ e => e
        obtain ⟨h', tk', nw, e, F', N', off', hS, hn, hi'⟩ := hr
        rw [hn] at N' off' hS
        exact ⟨h', tk', news, e, F', N', off', hS, ih (i + 1) _ (by omega) hi'⟩
      | false =>
        simp only [Bool.false_eq_true, if_false] at hq ⊢
        obtain ⟨h', tk', nw, e, F', N', off', hS, hn, hi'⟩ := hq
        rw [hn] at N' off' hS
        exact ⟨h', tk', news, e, F', N', off', hS, ih (i + 1) _ (by omega) hi'⟩
  exact key n 0 [] (by omega) h0
end
section
variable {prog : Program} {w : World} {A : Around} {E : Value → Shared → Prop} {s : Shared} {h₀ : Heap} {L : Addr} {m : Str → Option Value} {env : Env}
theorem stept {I : Addr} {k : String} {z : Str} {t : Tok} : ∀ i (h h' : Heap) (o : Obj) (nw : List (Addr × Obj)), h.IsStrIter I k z t i → h.get? I = some o → h'.get? I = some o → (∀ b o, h₀.get? b = some o → h'.get? b = some o) → News h₀ L h' nw → True → h'.IsStrIter I k z t i := fun i h h' o nw st e e' _ _ _ => by
  obtain ⟨o', q, r⟩ := st
  rw [e] at q; cases q; exact ⟨o, e', r⟩
def StrSrc (prog : Program) (w : World) (A : Around) (h₀ : Heap) (L : Addr) (m : Str → Option Value) (env : Env) (elt : Expr) (x : Str) (scope : Scope) (cl : List (Str × Addr)) (Fin : Shared → List Value → List (Addr × Obj) → Prop) (xv : Value) (s₁ : Shared) : Prop :=
  ∃ z t news, xv = .str z t ∧ A.handled = none ∧ Fr h₀ L s₁.heap m ∧ News h₀ L s₁.heap news ∧ z.cps.size ≤ sizeLine ∧
      ∀ s₂ : Shared, (∃ h, s₂ = { s₁ with heap := h }) → LCg.CompRest prog w A h₀ L m env elt x scope cl s₂ (fun _ => True) (SignAt z) (Fin s₂) z.cps.size 0 [] news
theorem StrSrc.intro {elt : Expr} {x : Str} {scope : Scope} {cl : List (Str × Addr)} {Fin : Shared → List Value → List (Addr × Obj) → Prop} {z : Str} {t : Tok} {news : List (Addr × Obj)} {s₁ : Shared}
    (hh : A.handled = none) (F : Fr h₀ L s₁.heap m) (N : News h₀ L s₁.heap news) (hsz : z.cps.size ≤ sizeLine)
    (h : ∀ g, LCg.CompRest prog w A h₀ L m env elt x scope cl { s₁ with heap := g } (fun _ => True) (SignAt z) (Fin { s₁ with heap := g }) z.cps.size 0 [] news) :
    StrSrc prog w A h₀ L m env elt x scope cl Fin (.str z t) s₁ := ⟨z, t, news, rfl, hh, F, N, hsz, fun _ ⟨g, e⟩ => e ▸ h g⟩
/-- `y = [elt for x in text]` -/
theorem Assign_ListComp_str {elt iter : Expr} {x y : Str} {px py : Pos} {scope : Scope} {cl : List (Str × Addr)} {pos spos : Pos} {Q : Flow → Shared → Prop} (F₀ : Fr h₀ L s.heap m) (hLe : env.locals = L)
    (hsw : swapsWith (.ListComp elt [⟨.Name x px, iter, [], 0⟩] scope pos) (some (.Name y py)) spos.line env = pure true)
    (hclos : closureFor scope env = pure cl) (hcell : ∀ z ∈ scope.names, z.2 ≠ .cell) (hkind : scope.kind = .function)
    (hnames : ∀ z ∈ scope.names, z.2 = .local → scope.names.lookup z.1 = some .local) (hx : scope.names.lookup x = some .local)
    (hy : env.kindOf y = some .local) (hp : (env.scope.kind == .class || (env.scope.kind == .module && env.locals != env.globals)) = false)
    (h : wpAny (model prog w) A (eval iter env) (StrSrc prog w A h₀ L m env elt x scope cl (fun s₂ => LCg.FinA h₀ L m s₂ y Q)) E s)
    (hs : ∀ x, foldedSetIterable iter env x = pure x := by intro _; rfl) :
    wpAny (model prog w) A (exec (.Assign [.Name y py] (.ListComp elt [⟨.Name x px, iter, [], 0⟩] scope pos) spos) env) Q E s := by
  subst hLe
  rw [exec_Assign_Name_used _ _ _ _ hsw]
  refine wpAny_bind (wpAny_standAt (wpAny_bind ?_))
  show wpAny _ A (do let _ ← comprehension (.ListComp elt [⟨.Name x px, iter, [], 0⟩] scope pos) scope env _ (newList []) false (eval iter env) (some (assign (.Name y py) env))) _ _ s
  refine wpAny_bind (wpAny_mono (wpAny_comprehension_free (use := some (assign (.Name y py) env)) (Q := fun _ s' => Q .next s') rfl hs hclos hkind hnames
    (wpAny_mono h (fun xv s₁ h₁ => ?_) fun _ _ e => e)) (fun _ s' hq => wpAny_pure (wpAny_pure hq)) fun _ _ e => e)
  obtain ⟨z, t, news, rfl, hh, F, N, hsz, R⟩ := h₁
  have fin : ∀ (o : Obj) D C h tk m' ys news', Fr h₀ env.locals h m → News h₀ env.locals h ((D, LCg.lst ys) :: news') → LCg.Off1 D news' → h.Ns C m' → h₀.get? C = none → h₀.get? D = none → C ≠ env.locals → D ≠ env.locals → C ≠ D → (∀ p ∈ news', p.1 ≠ C) →
      LCg.FinA h₀ env.locals m { s₁ with heap := s₁.heap.push o } y Q ys news' → wpAny (model prog w) A (assign (.Name y py) env (.ref D)) (fun _ s' => ∃ m', s'.heap.Ns C m' ∧ ∀ h'', s'.heap.SameBut C h'' → Q .next { s' with heap := h'' }) E { s₁ with heap := h, toks := tk } := by
    intro o D C h' tk m' ys news' F' N' o1 hn hC₀ hD₀ hCL hDL hCD offC fin
    refine wpAny_assign_Name (wpAny_storeName_local hy F'.ns (fun h₂ hn₂ hs₂ => ?_) hp)
    have hL₀ : h₀.get? env.locals = none := Heap.get?_none_of_le F'.above
    have F₂ : Fr h₀ env.locals h₂ (fun z => if z = y then some (.ref D) else m z) := ⟨hn₂, fun b o e => hs₂.extBut b o (fun q => by rw [q, hL₀] at e; cases e) (F'.keep b o e), F'.above⟩
    refine ⟨m', hn.sameBut hs₂ hCL, fun h'' hs'' => fin D h'' _ (F₂.change hs'' hCL hC₀) (fun p hp => ?_) o1⟩
    have z : h₂.get? p.1 = some p.2 := hs₂.extBut _ _ (N' p hp).2.1 (N' p hp).1
    refine ⟨hs''.extBut _ _ ?_ z, (N' p hp).2⟩
    rcases List.mem_cons.mp hp with rfl | hp
    · exact Ne.symm hCD
    · exact offC p hp
  cases ha : z.cps.all (· < 128)
  · refine wpAny_pyIter_wide ha ?_
    refine LCg.block_U (Walks.strWide hh _ z t) hsz (fun i h st => ⟨_, st.choose_spec.1⟩) stept hcell hkind hx ⟨_, Heap.get?_push_size _ rfl, rfl, rfl⟩ (fun b hb => ?_)
      (F.keeps fun _ _ e => Heap.get?_push_of_some _ e) (N.grown fun _ _ e => Heap.get?_push_of_some _ e) (Nat.ne_of_lt F.ns.lt) (next_is_new F) (fun p hp => Nat.ne_of_lt (Heap.lt_size (N p hp).1)) trivial (R _ ⟨_, rfl⟩) (fin _)
    rw [List.mem_singleton.mp hb]
    show s₁.heap.objs.size < (s₁.heap.push _).objs.size
    rw [Heap.size_push]; exact Nat.lt_succ_self _
  · refine wpAny_pyIter_ascii ha ?_
    refine LCg.block_U (Walks.strAscii hh _ z t) hsz (fun i h st => ⟨_, st.choose_spec.1⟩) stept hcell hkind hx ⟨_, Heap.get?_push_size _ rfl, rfl, rfl⟩ (fun b hb => ?_)
      (F.keeps fun _ _ e => Heap.get?_push_of_some _ e) (N.grown fun _ _ e => Heap.get?_push_of_some _ e) (Nat.ne_of_lt F.ns.lt) (next_is_new F) (fun p hp => Nat.ne_of_lt (Heap.lt_size (N p hp).1)) trivial (R _ ⟨_, rfl⟩) (fin _)
    rw [List.mem_singleton.mp hb]
    show s₁.heap.objs.size < (s₁.heap.push _).objs.size
    rw [Heap.size_push]; exact Nat.lt_succ_self _
end
/-- `ys != []` -/
theorem ne_empty {prog : Program} {w : World} {A : Around} {E : Value → Shared → Prop} {s : Shared} {Q : Value → Shared → Prop} {h₀ : Heap} {L : Addr} {news : List (Addr × Obj)} {l b : Addr} {ys : List Value} {k : Nat} (N : News h₀ L s.heap news) (hl : (l, LCg.lst ys) ∈ news) (hb : (b, W.listOf #[] k) ∈ news) (hu : A.units < cLine) (h : Q (.bool (!decide (ys = []))) s) :
    wpAny (model prog w) A (compareOp .NotEq (.ref l) (.ref b)) Q E s := by
  have h1 : s.heap.IsList l ys.toArray := ⟨_, (N _ hl).1, rfl, _, rfl⟩
  have h2 : s.heap.IsList b (#[] : Array Value) := ⟨_, (N _ hb).1, rfl, _, rfl⟩
  cases ys with
  | nil => exact EqBoolInt.of_rcne (SeqAt.RcNeAt.lists (e := fun _ => true) h1 h2 rfl hu fun j h => absurd h (Nat.not_lt_zero _)) h
  | cons y r => exact EqBoolInt.of_rcne (SeqAt.RcNeAt.lists_lengths h1 h2 (by simp) hu) h
end Mine

-- MRange
namespace Mine
open PySem PySem.W PySem.Calls PyProof.Rows PySem.Spec
set_option maxRecDepth 100000
/-- a mark at which the walk stops -/
def Stop (P : Prop) : Prop := P
theorem Stop.out {P : Prop} (h : Stop P) : P := h
theorem Stop.into {P : Prop} (h : P) : Stop P := h
section
variable {prog : Program} {w : World} {A : Around} {E : Value → Shared → Prop} {s : Shared} {h₀ : Heap} {env : Env} {x : Str} {px pos : Pos} {iter : Expr} {body : List Stmt} {m₀ : Str → Option Value} {rest0 : List (Addr × Obj)} {Q : Flow → Shared → Prop}
/-- what the iterable of a loop over a range must be -/
def RangeSrc (h₀ : Heap) (L : Addr) (a st : Int) (n : Nat) (m₀ : Str → Option Value) (rest0 : List (Addr × Obj)) (s : Shared) (xv : Value) (s₁ : Shared) : Prop :=
  ∃ r b t u v h tk, xv = .ref r ∧ s₁ = { s with heap := h, toks := tk } ∧ IsRange h r a b st t u v ∧ Builtin.Range.small a b st = true ∧ Builtin.Range.rangeSize a b st = (n : Int) ∧ Fr h₀ L h m₀ ∧ News h₀ L h rest0
/-- the map m₀, but what u says at the names ws -/
def offW : List Str → (Str → Option Value) → (Str → Option Value) → Str → Option Value
  | [], _, m₀ => m₀
  | a :: ws, u, m₀ => fun y => if y = a then u y else offW ws u m₀ y
theorem offW_eq {u m₀ : Str → Option Value} (z : Str) : ∀ ws : List Str, offW ws u m₀ z = if z ∈ ws then u z else m₀ z
  | [] => by simp [offW]
  | a :: ws => by
    simp only [offW, List.mem_cons, offW_eq z ws]
    by_cases h : z = a
    · simp [h]
    · simp [h]
/-- a turn's end -/
def RTurn (h₀ : Heap) (L : Addr) (I : Addr) (oI : Obj) (x : Str) (ws : List Str) (m₀ : Str → Option Value) (J : List (Addr × Obj) → Prop) (s s' : Shared) : Prop :=
  ∃ m rest h tk, s' = { s with heap := h, toks := tk } ∧ Fr h₀ L h m ∧ News h₀ L h ((I, oI) :: rest) ∧ (∀ p ∈ rest, p.1 ≠ I) ∧ J rest ∧ (∀ z, z ≠ x → z ∉ ws → m z = m₀ z)
theorem RTurn.intro {L I : Addr} {oI : Obj} {ws : List Str} {J : List (Addr × Obj) → Prop} {m : Str → Option Value} {rest : List (Addr × Obj)} {h : Heap} {tk : Nat} (F : Fr h₀ L h m) (N : News h₀ L h ((I, oI) :: rest)) (off : ∀ p ∈ rest, p.1 ≠ I) (hJ : J rest) (hm : ∀ z, z ≠ x → z ∉ ws → m z = m₀ z) :
    Flow.next = .next ∧ RTurn h₀ L I oI x ws m₀ J s { s with heap := h, toks := tk } := ⟨rfl, m, rest, h, tk, rfl, F, N, off, hJ, hm⟩
theorem off_if {α : Type} {z a : Str} {v r g : α} (h : z ≠ a) (e : r = g) : (if z = a then v else r) = g := by rw [if_neg h]; exact e
theorem off_in {α : Type} {z : Str} {ws : List Str} {v r g : α} (h : z ∉ ws) (e : r = g) : (if z ∈ ws then v else r) = g := by rw [if_neg h]; exact e
/-- `for x in range(..):`, x a local name; the ledger may grow; the body stores the names ws -/
theorem for_range {a st : Int} {n : Nat} (ws : List Str) (J₀ : List (Addr × Obj) → Nat → List (Addr × Obj) → Prop) (_F₀ : Fr h₀ env.locals s.heap m₀) (_N₀ : News h₀ env.locals s.heap rest0) (hh : A.handled = none) (hxk : env.kindOf x = some .local) (hp : (env.scope.kind == .class || (env.scope.kind == .module && env.locals != env.globals)) = false)
    (h : wpAny (model prog w) A (eval iter env) (RangeSrc h₀ env.locals a st n m₀ rest0 s) E s)
    (hJ : J₀ rest0 0 rest0)
    (turn : ∀ i kv t (u : Str → Option Value) rest I oI (s₁ : Shared) h tk, i < n → kv = a + i * st → J₀ rest0 i rest → (∀ p ∈ rest, p.1 ≠ I) → (∀ p ∈ rest0, p.1 < I) → Fr h₀ env.locals h (fun y => if y = x then some (.int kv t) else offW ws u m₀ y) → News h₀ env.locals h ((I, oI) :: rest) →
      wpAny (model prog w) A (execs body env) (fun f s' => f = .next ∧ RTurn h₀ env.locals I oI x ws m₀ (J₀ rest0 (i + 1)) s₁ s') (fun _ _ => False) { s₁ with heap := h, toks := tk })
    (done : ∀ (u : Str → Option Value) rest h tk, J₀ rest0 n rest → Fr h₀ env.locals h (fun y => if y = x then u y else offW ws u m₀ y) → News h₀ env.locals h rest → Q .next { s with heap := h, toks := tk })
    (hs : ∀ x, foldedSetIterable iter env x = pure x := by intro _; rfl) :
    wpAny (model prog w) A (exec (.For (.Name x px) iter body [] pos) env) Q E s := by
  generalize hJ0 : J₀ rest0 = J at *
  refine wpAny_For (wpAny_mono h (fun xv s₁ h₁ => ?_) fun _ _ e => e) hs
  obtain ⟨r, b, t, u, v, h₁, tk₁, rfl, rfl, hr, hsm, hn, F₁, N₁⟩ := h₁
  refine wpAny_pyIter_range hr hsm ?_
  have hlt : ∀ p ∈ rest0, p.1 < h₁.objs.size := fun p hp => Heap.lt_size (N₁ p hp).1
  have NE : ∀ {α : Type} {t : Sem α} {Q' : α → Shared → Prop} {E' : Value → Shared → Prop} {s' : Shared}, wpAny (model prog w) A t Q' (fun _ _ => False) s' → wpAny (model prog w) A t Q' E' s' := fun z => wpAny_mono z (fun _ _ x => x) fun _ _ x => x.elim
  have hI0 : h₀.get? h₁.objs.size = none := next_is_new F₁
  refine codeAny_forLoop_anyU (n := n) (m := m₀) (news := rest0) (Walks.range hh h₁.objs.size a st n) ?_ ?_ ?_ ?_ (F₁.push _) (fun p hp => ⟨Heap.get?_push_of_some _ (N₁ p hp).1, (N₁ p hp).2⟩) ?_ (fun i m rest => J i rest ∧ ∀ z, z ≠ x → z ∉ ws → m z = m₀ z) ⟨hJ, fun _ _ _ => rfl⟩ ?_ ?_
  · intro hm
    exact absurd F₁.ns.lt ((List.mem_singleton.mp hm) ▸ Nat.lt_irrefl _)
  · intro b hb
    rw [List.mem_singleton.mp hb]
    exact hI0
  · intro p hp hI
    exact absurd (hlt p hp) ((List.mem_singleton.mp hI) ▸ Nat.lt_irrefl _)
  · show IsRangeIter _ _ _ _ _
    rw [hn]; simpa using Heap.get?_push_size _ rfl
  · intro i s' v Q' _ hq
    show wpAny _ A (pure ()) _ _ _
    exact wpAny_pure hq
  · intro i v m₁ news₁ s₁ own hi hP ⟨hj, hm⟩ hoff hown hget hcov hst F N
    obtain ⟨t, rfl⟩ := hP
    have hst' : s₁.heap.get? h₁.objs.size = some _ := hst
    have NI := hcov h₁.objs.size (List.mem_singleton.mpr rfl) hI0 _ hst'
    generalize hoI : ({ cls := .type "range_iterator", data := .fields #[rawInt (a + ((i + 1 : Nat) : Int) * st), rawInt ((n : Int) - ((i + 1 : Nat) : Int)), rawInt st] } : Obj) = oI at hst' NI
    have only : ∀ p ∈ own, p = (h₁.objs.size, oI) := fun p hp => by
      have e1 : p.1 = h₁.objs.size := List.mem_singleton.mp (hown p hp)
      have e2 := hget p hp
      rw [e1, hst'] at e2
      exact Prod.ext e1 (Option.some.inj e2).symm
    have off : ∀ p ∈ news₁, p.1 ≠ h₁.objs.size := fun p hp e => hoff p hp (e ▸ List.mem_singleton.mpr rfl)
    refine wpAny_assign_Name (wpAny_storeName_local hxk F.ns (fun h' hn' hs' => ?_) hp)
    have e0 : (fun y => if y = x then some (Value.int (a + i * st) t) else m₁ y) = (fun y => if y = x then some (.int (a + i * st) t) else offW ws m₁ m₀ y) := by
      funext z
      by_cases h1 : z = x
      · rw [if_pos h1, if_pos h1]
      · rw [if_neg h1, if_neg h1, offW_eq]
        by_cases h2 : z ∈ ws
        · rw [if_pos h2]
        · rw [if_neg h2]; exact hm z h1 h2
    have F' := F.set (e0 ▸ hn') hs'
    have N' : News h₀ env.locals h' ((h₁.objs.size, oI) :: news₁) := fun p hp => by
      have z := N p (by
        rcases List.mem_cons.mp hp with rfl | hp
        · exact List.mem_append_left _ NI
        · exact List.mem_append_right _ hp)
      exact ⟨hs'.extBut _ _ z.2.1 z.1, z.2⟩
    refine NE (wpAny_mono (turn i _ t m₁ news₁ h₁.objs.size oI s₁ h' _ hi rfl hj off hlt F' N') (fun f s₃ q => ?_) fun _ _ x => x)
    obtain ⟨rfl, m₂, rest₂, h₂, tk₂, rfl, F₂, N₂, off₂, hj₂, hm₂⟩ := q
    refine ⟨rfl, h₂, tk₂, m₂, rest₂, rfl, F₂, fun p hp => ?_, fun p hp hq => off₂ p hp (List.mem_singleton.mp hq), hj₂, hm₂⟩
    rcases List.mem_append.mp hp with hp | hp
    · rw [only p hp]; exact N₂ _ List.mem_cons_self
    · exact N₂ p (.tail _ hp)
  · rintro h' tk m' news' F' N' _ ⟨hj, hm⟩
    refine done m' news' h' tk hj ?_ N'
    have e0 : m' = (fun y => if y = x then m' y else offW ws m' m₀ y) := by
      funext z
      by_cases h1 : z = x
      · rw [if_pos h1]
      · rw [if_neg h1, offW_eq]
        by_cases h2 : z ∈ ws
        · rw [if_pos h2]
        · rw [if_neg h2]; exact hm z h1 h2
    exact e0 ▸ F'
end
end Mine

-- MList
namespace Mine
open PySem PySem.W PySem.Calls PyProof.Rows PySem.Spec
set_option maxRecDepth 100000
section
variable {prog : Program} {w : World} {A : Around} {E : Value → Shared → Prop} {s : Shared} {h₀ : Heap} {L D : Addr} {m : Str → Option Value} {led : List (Addr × Obj)} {g : Obj → List (Addr × Obj)} {ys : List Value}
theorem news_upd {h h' : Heap} {o o' : Obj} (N : News h₀ L h led) (U : UpdF D o led g) (hs : Heap.SameBut D h h') (ho : h'.get? D = some o') : News h₀ L h' (g o') := by
  obtain ⟨pre, post, rfl, hg, h1, h2⟩ := U.split
  have ND := N (D, o) (by simp)
  rw [hg]
  intro p hp
  rcases List.mem_append.mp hp with hp | hp
  · have z := N p (List.mem_append_left _ hp)
    exact ⟨hs.extBut _ _ (h1 p hp) z.1, z.2⟩
  · rcases List.mem_cons.mp hp with rfl | hp
    · exact ⟨ho, ND.2⟩
    · have z := N p (List.mem_append_right _ (.tail _ hp))
      exact ⟨hs.extBut _ _ (h2 p hp) z.1, z.2⟩
/-- `xs.append(v)`, xs a list of the ledger -/
theorem append_N {v : Value} {Q : Value → Shared → Prop} (F : Fr h₀ L s.heap m) (N : News h₀ L s.heap led) (U : UpdF D (LCg.lst ys) led g) (hsz : ys.length ≤ sizeLine)
    (h : ∀ h', Fr h₀ L h' m → News h₀ L h' (g (LCg.lst (ys ++ [v]))) → Q .none { s with heap := h' }) : wpAny (model prog w) A (call (.builtin "list.append") [.ref D, v]) Q E s := by
  have ND : s.heap.get? D = some (LCg.lst ys) ∧ D ≠ L ∧ h₀.get? D = none := by
    obtain ⟨pre, post, rfl, _⟩ := U.split
    exact N (D, LCg.lst ys) (by simp)
  refine append_at ND.1 (fun h' hs hD => h h' (F.change hs ND.2.1 ND.2.2) (news_upd N U hs ?_)) (by rw [List.size_toArray]; exact hsz)
  rw [hD]; exact congrArg some (LCg.lst_snoc ys v)
/-- `xs[k]`, xs a list of the ledger -/
theorem item_N {value slice : Expr} {k : Int} {u : Tok} {x : Value} {Q : Value → Shared → Prop} (N : News h₀ L s.heap led) (hm : (D, LCg.lst ys) ∈ led) (h0 : 0 ≤ k) (hfit : k < 2 ^ 63) (hx : ys[k.toNat]? = some x) (h : Q x s)
    (hs : subscripted slice false (.ref D) (.int k u) = operate [.ref D, .int k u] (getItem (.ref D) (.int k u)) := by with_unfolding_all rfl) (hg : ∀ r, letTemporaryGo value (.ref D) r = pure () := by intro _; with_unfolding_all rfl) :
    wpAny (model prog w) A (subscriptTail value slice (.ref D) (.int k u)) Q E s :=
  item_listL (l := ys) ⟨_, (N _ hm).1, rfl, _, rfl⟩ h0 hfit hx h hs hg
/-- `xs[k] = v`, xs a list of the ledger -/
theorem setItem_N {k : Int} {u : Tok} {v : Value} {Q : Unit → Shared → Prop} (F : Fr h₀ L s.heap m) (N : News h₀ L s.heap led) (U : UpdF D (LCg.lst ys) led g) (h0 : 0 ≤ k) (h1 : k < ys.length) (hsz : ys.length ≤ sizeLine)
    (h : ∀ h', Fr h₀ L h' m → News h₀ L h' (g (LCg.lst (ys.set k.toNat v))) → Q () { s with heap := h' }) : wpAny (model prog w) A (setItem (.ref D) (.int k u) v) Q E s := by
  have ND : s.heap.get? D = some (LCg.lst ys) ∧ D ≠ L ∧ h₀.get? D = none := by
    obtain ⟨pre, post, rfl, _⟩ := U.split
    exact N (D, LCg.lst ys) (by simp)
  have hsz2 : sizeLine = 16777216 := sizeLine_eq
  have hk : k.toNat < ys.length := by omega
  refine ki_setAt (items := ys.toArray) (n := ys.length) ND.1 h0 (by omega) (by rw [List.size_toArray]; exact h1) (h _ (F.change (Heap.SameBut.update ..) ND.2.1 ND.2.2) (news_upd N U (Heap.SameBut.update ..) ?_))
  rw [Heap.get?_update_self _ ND.1 rfl]
  refine congrArg some ?_
  unfold Obj.mapSeq LCg.lst
  dsimp only
  simp [List.length_set]
/-- `xs[k:]`, xs a list of ints of the ledger -/
theorem slice_from {value slice : Expr} {k : Int} {u : Tok} {ns : List Int} {Q : Value → Shared → Prop} (F : Fr h₀ L s.heap m) (N : News h₀ L s.heap led) (hm : (D, LCg.lst ys) ∈ led) (hi : IntsAre ys ns) (h0 : 0 ≤ k) (hz : ys.length ≤ sizeLine)
    (h : ∀ D' ws h', Fr h₀ L h' m → News h₀ L h' ((D', W.listOf (List.toArray ws) 0) :: led) → (∀ p ∈ led, p.1 < D') → IntsAre ws (ns.drop k.toNat) → Q (.ref D') { s with heap := h' })
    (hs : subscripted slice false (.ref D) (.ref s.heap.objs.size) = operate [.ref s.heap.objs.size, .ref D] (getItem (.ref D) (.ref s.heap.objs.size))) (ht : ∀ r, letTemporaryGo value (.ref D) r = pure ()) :
    wpAny (model prog w) A (subscriptTail value slice (.ref D) (.ref s.heap.objs.size)) Q E { s with heap := s.heap.push { cls := .type "slice", data := .fields #[.int k u, .none, .none] } } :=
  kmk_slice_ints (ms := ns.drop k.toNat) F N ⟨_, (N _ hm).1, rfl, _, rfl⟩ (IsPart.int k u) IsPart.none hi (kmk_from hi h0) rfl (fun D' ws h' F' N' l1 hi' _ _ => h D' ws h' F' N' l1 hi') hs ht (by rw [List.size_toArray]; exact hz)
/-- `sum(xs)`, xs a made list of ints -/
theorem sum_N {ns : List Int} {ws : List Value} {Q : Value → Shared → Prop} (F : Fr h₀ L s.heap m) (N : News h₀ L s.heap led) (hh : A.handled = none) (hm : (D, W.listOf (List.toArray ws) 0) ∈ led) (hi : IntsAre ws ns)
    (h : ∀ h' tk t', Fr h₀ L h' m → News h₀ L h' led → Q (.int ns.sum t') { s with heap := h', toks := tk }) : wpAny (model prog w) A (call (.builtin "sum") [.ref D]) Q E s :=
  LSm.sum_ints F N hh ⟨_, (N _ hm).1, rfl, _, rfl⟩ hi h
theorem min3_N {a b c : Int} {t u x : Tok} {Q : Value → Shared → Prop} (F : Fr h₀ L s.heap m) (N : News h₀ L s.heap led) (hh : A.handled = none)
    (h : ∀ h' tk t', Fr h₀ L h' m → News h₀ L h' led → Q (.int (min (min a b) c) t') { s with heap := h', toks := tk }) : wpAny (model prog w) A (call (.builtin "min") [.int a t, .int b u, .int c x]) Q E s := by
  refine min_three_ints hh fun h' tk hk => ?_
  have key := fun t' => h h' tk t' (F.keeps hk) (N.grown hk)
  split
  · rename_i h1
    have e1 : min a b = b := Int.min_eq_right (Int.le_of_lt h1)
    split
    · rename_i h2
      have e2 : min b c = c := Int.min_eq_right (Int.le_of_lt h2)
      rw [e1, e2] at key; exact key _
    · rename_i h2
      have e2 : min b c = b := Int.min_eq_left (Int.not_lt.mp h2)
      rw [e1, e2] at key; exact key _
  · rename_i h1
    have e1 : min a b = a := Int.min_eq_left (Int.not_lt.mp h1)
    split
    · rename_i h2
      have e2 : min a c = c := Int.min_eq_right (Int.le_of_lt h2)
      rw [e1, e2] at key; exact key _
    · rename_i h2
      have e2 : min a c = a := Int.min_eq_left (Int.not_lt.mp h2)
      rw [e1, e2] at key; exact key _
theorem min2_N {a b : Int} {t u : Tok} {Q : Value → Shared → Prop} (F : Fr h₀ L s.heap m) (N : News h₀ L s.heap led) (hh : A.handled = none)
    (h : ∀ h' tk t', Fr h₀ L h' m → News h₀ L h' led → Q (.int (min a b) t') { s with heap := h', toks := tk }) : wpAny (model prog w) A (call (.builtin "min") [.int a t, .int b u]) Q E s := by
  refine min_two_ints hh fun h' tk hk => ?_
  have key := fun t' => h h' tk t' (F.keeps hk) (N.grown hk)
  split
  · rename_i h1
    have e1 : min a b = b := Int.min_eq_right (Int.le_of_lt h1)
    rw [e1] at key; exact key _
  · rename_i h1
    have e1 : min a b = a := Int.min_eq_left (Int.not_lt.mp h1)
    rw [e1] at key; exact key _
theorem max2_N {a b : Int} {t u : Tok} {Q : Value → Shared → Prop} (F : Fr h₀ L s.heap m) (N : News h₀ L s.heap led) (hh : A.handled = none)
    (h : ∀ h' tk t', Fr h₀ L h' m → News h₀ L h' led → Q (.int (max a b) t') { s with heap := h', toks := tk }) : wpAny (model prog w) A (call (.builtin "max") [.int a t, .int b u]) Q E s := by
  refine max_two_ints hh fun h' tk hk => ?_
  have key := fun t' => h h' tk t' (F.keeps hk) (N.grown hk)
  split
  · rename_i h1
    have e1 : max a b = b := Int.max_eq_right (Int.le_of_lt h1)
    rw [e1] at key; exact key _
  · rename_i h1
    have e1 : max a b = a := Int.max_eq_left (Int.not_lt.mp h1)
    rw [e1] at key; exact key _
end
end Mine

-- MRc
namespace Mine
open PySem PySem.W PySem.Calls PyProof.Rows
local macro_rules | `(tactic| walk_at "mine enter") => `(tactic| (refine' code_def ?k1 ?k2 ?k3 ?k4 ?k5 ?kA ?kF ?kK ?k6 ?k7 ?k8 ?k9 ?kB ?_ ?c2 ?c3 ?c4 ?c5; (case kA => exact rfl); (case kF => exact rfl); (case kK => assumption); (case k1 => k_asm); (case k2 => k_asm); (case k3 => k_asm); (case k4 => k_asm); (case k5 => k_asm); (case k6 => k_is); (case k7 => k_is); (case k8 => ktr_room); (case k9 => first | exact BindsTo.of_eq rfl | exact binds_K (by k_in) rfl (by k_is) rfl rfl rfl); (case c5 => decide); (case kB => exact locs rfl); (case c2 => exact rfl); (case c3 => exact rfl); (case c4 => exact rfl); k_whole; intro g' L' h' FG' F' N' B' X' T'; (try dsimp only); (try k_lift B'); (try k_fold)))
local macro_rules | `(tactic| walk_at "mine enterC") => `(tactic| (refine' code_defC ?k1 ?k2 ?k3 ?k4 ?k5 ?kA ?kF ?kK ?k6 ?k7 ?k8 ?k9 ?kB ?kD ?_ ?c2 ?c3 ?c4; (case kA => exact rfl); (case kF => exact rfl); (case kK => assumption); (case k1 => k_asm); (case k2 => k_asm); (case k3 => k_asm); (case k4 => k_asm); (case k5 => k_asm); (case k6 => k_is); (case k7 => k_is); (case k8 => ktr_room); (case k9 => exact BindsTo.of_eq rfl); (case kB => exact rfl); (case kD => decide +kernel); (case c2 => exact rfl); (case c3 => exact rfl); (case c4 => exact rfl); k_whole; intro g' L' h' tk' cells' FG' F' N' Y' B' X' T' l1; (try k_lt l1); k_cells Y'; (try simp only [List.cons_append, List.nil_append] at N'); (try dsimp only); (try k_lift B'); (try k_fold)))
local macro_rules | `(tactic| walk_at "mine enterR") => `(tactic| (refine' kp_rest ?k1 ?k2 ?k3 ?k4 ?k5 ?kA ?kF ?kK ?k6 ?k7 ?k8 ?kV ?kP ?kG ?kB ?_ ?c2 ?c3 ?c4 ?c5; (case kA => exact rfl); (case kF => exact rfl); (case kK => assumption); (case k1 => k_asm); (case k2 => k_asm); (case k3 => k_asm); (case k4 => k_asm); (case k5 => k_asm); (case k6 => k_is); (case k7 => k_is); (case k8 => ktr_room); (case kV => kl_lit); (case kP => exact rfl); (case kG => exact fun _ => rfl); (case kB => exact fun _ => locs rfl); (case c5 => decide); (case c2 => exact rfl); (case c3 => exact rfl); (case c4 => exact rfl); k_whole; intro D' g' L' h' l1 FG' F' N' B' X' T'; (try k_lt l1); (try dsimp only); (try k_lift B'); (try k_fold)))
local macro_rules | `(tactic| walk_at "mine enterRC") => `(tactic| (refine' rest_cells ?k1 ?k2 ?k3 ?k4 ?k5 ?kA ?kF ?kK ?k6 ?k7 ?k8 ?kV ?kP ?kG ?kB ?kD ?_ ?c2 ?c3 ?c4; (case kA => exact rfl); (case kF => exact rfl); (case kK => assumption); (case k1 => k_asm); (case k2 => k_asm); (case k3 => k_asm); (case k4 => k_asm); (case k5 => k_asm); (case k6 => k_is); (case k7 => k_is); (case k8 => ktr_room); (case kV => kl_lit); (case kP => exact rfl); (case kG => exact fun _ => rfl); (case kB => exact fun _ => rfl); (case kD => decide +kernel); (case c2 => exact rfl); (case c3 => exact rfl); (case c4 => exact rfl); k_whole; intro D' g' L' h' tk' cells' l0 lD FG' F' N' Y' B' X' T' l1; (try k_lt l0); (try k_lt l1); k_cells Y'; (try simp only [List.cons_append, List.nil_append] at N'); (try dsimp only); (try k_lift B'); (try k_fold)))

local macro_rules | `(tactic| walk_at "eval Call Attribute") => `(tactic| (k_here; (with_reducible show wpAny _ _ (eval (Expr.Call (Expr.Attribute (Expr.Name _ _) _ _) [Expr.Starred _ _] [] _) _) _ _ _); refine starCall_ ?_))
local macro_rules | `(tactic| walk_at "getAttr ref") => `(tactic| (k_here; (with_reducible show wpAny _ _ (getAttr _ (Str.ofString "_ident") _) _ _ _); k_dflt (refine' get_sm ?k1 ?k2 ?k4 ?k5 ?k6 ?k7 ?k9 ?k10 ?k11 ?k12 ?k13 ?k14 ?_; (case k1 => k_asm); (case k2 => k_asm); (case k4 => k_inst); (case k5 => k_is); (case k6 => k_is); (case k7 => k_is); (case k9 => k_is); (case k10 => k_is); (case k11 => decide +kernel); (case k12 => k_get); (case k13 => k_is); (case k14 => k_handed); k_whole)))
local macro_rules | `(tactic| walk_at "callWith ref") => `(tactic| (k_here; (with_reducible show wpAny _ _ (callWith _ (Value.ref _) [] (backTo _ (starEach [Expr.Starred _ _] _)) []) _ _ _); k_dflt (first
  | (refine' callWith_S ?k1 ?k2 ?_; (case k1 => k_asm); (case k2 => k_is); k_whole)
  | (refine' callWith_SM ?k1 ?k2 ?k3 ?_; (case k1 => k_asm); (case k2 => k_mem); (case k3 => k_is); k_whole)
  | (refine' callWith_SC ?k1 ?k2 ?_; (case k1 => k_inst); (case k2 => exact rfl); k_whole))))

local macro_rules | `(tactic| walk_at "mine spec") => `(tactic| first | (refine' ident_spec ?k1 ?k2 ?k3 ?k4 ?k5 ?kK ?kd ?ku  ?_; (case k1 => k_asm); (case k2 => k_asm); (case k3 => k_asm); (case k4 => k_asm); (case k5 => k_asm); (case kK => first | exact rfl | assumption); (case kd => ktr_room); (case ku => ktr_units);  k_whole; intro h' tk' F' N'))
local macro_rules | `(tactic| walk_at "call ref") => `(tactic| (k_here; k_dflt (first | (refine wpAny_call ?_; walk_at "mine spec") | (refine call_meth (by k_asm) (by k_mem) ?_; walk_at "mine spec")); (try dsimp only); (try k_fold)))

local macro_rules | `(tactic| k_all) => `(tactic| assumption)
local macro_rules | `(tactic| k_room) => `(tactic| ktr_room)
local macro_rules | `(tactic| k_mem) => `(tactic| exact List.mem_append.mpr (.inl (by assumption)))
local macro_rules | `(tactic| walk_at "mine seg") => `(tactic| (first | (refine' SegF.here ?sgC; (case sgC => assumption)) | (refine' SegF.there ?sgA ?sgB; (case sgA => k_ne); (case sgB => walk_at "mine seg"))))
local macro_rules | `(tactic| walk_at "eval Lambda") => `(tactic| (k_here; k_dflt (refine' lam_evalT ?F ?N ?T ?C ?S ?hT ?hN ?hd ?hcl ?_; (case F => k_asm); (case N => k_asm); (case T => k_asm); (case C => kn_code); (case S => walk_at "mine seg"); (case hT => assumption); (case hN => kcj_all); (case hd => exact rfl); (case hcl => exact rfl); k_whole); intro f' c' oc' vs' t' ct' tabs' h' tk' F' N' hT' hm' d1' d2' l1 lt'; (try dsimp only at N'); (try k_lt l1)))
local macro_rules | `(tactic| walk_at "call type:map") => `(tactic| (k_here; (with_reducible show wpAny _ _ (call (Value.type "map") [_, Value.ref _]) _ _ _); k_dflt (refine' call_map_N ?k1 ?k2 ?k3 ?_; (case k1 => k_asm); (case k2 => k_asm); (case k3 => k_mem); k_whole); intro I' h' F' N' l1; (try k_lt l1)))
/-- the instance's fields, as __init__ leaves them -/
abbrev edDict (lo hi : Int) (k1 k2 k3 k4 k5 k6 : Int) (t1 t2 t3 t4 t5 t6 u1 u2 u3 u6 : Tok) : Obj := dictOf [⟨k1, .str (Str.ofString "match_cost") t1, .int 0 u1⟩, ⟨k2, .str (Str.ofString "group_cost") t2, .int lo u2⟩, ⟨k3, .str (Str.ofString "mismatch_cost") t3, .int hi u3⟩, ⟨k4, .str (Str.ofString "local") t4, .bool false⟩, ⟨k5, .str (Str.ofString "external") t5, .bool true⟩, ⟨k6, .str (Str.ofString "grouped") t6, .str (Str.ofString "AEIOUYBPCKQDTLRMNGJFPVSXZCSZ") u6⟩] 6

/-- the text z stands in the text x -/
def inS (z x : Str) : Bool := !(Builtin.Str.occurrences x z 0 x.length 1).isEmpty
def grouped : Str := Str.ofString "AEIOUYBPCKQDTLRMNGJFPVSXZCSZ"
def groups : List (Str × Tok) := [(⟨#[65, 69, 73, 79, 85, 89]⟩, 378), (⟨#[66, 80]⟩, 379), (⟨#[67, 75, 81]⟩, 380), (⟨#[68, 84]⟩, 381), (⟨#[76, 82]⟩, 382), (⟨#[77, 78]⟩, 383), (⟨#[71, 74]⟩, 384), (⟨#[70, 80, 86]⟩, 385), (⟨#[83, 88, 90]⟩, 386), (⟨#[67, 83, 90]⟩, 387)]
/-- the price of a pair, as r_cost reckons it -/
def rc (c d : Str) (lo hi : Int) : Int := if c = d then 0 else if (!(inS c grouped) || !(inS d grouped)) = true then hi else if groups.any (fun g => inS c g.1 && inS d g.1) = true then lo else hi
abbrev lamQ : Str := (Str.ofString "Editex.r_cost" ++ ".<locals>.") ++ "<lambda>"

theorem cast_ret {R : Result → Shared → Prop} {x y : Int} {t : Tok} {s : Shared} (e : x = y) (h : R (.ok (.ret (.int x t))) s) : R (.ok (.ret (.int y t))) s := e ▸ h
theorem rc_same {c d : Str} {lo hi : Int} (h : c = d) : rc c d lo hi = 0 := by unfold rc; rw [if_pos (h)]
theorem rc_out {c d : Str} {lo hi : Int} (h : ¬ c = d) (h2 : (!(inS c grouped) || !(inS d grouped)) = true) : rc c d lo hi = hi := by unfold rc; rw [if_neg (h), if_pos h2]
theorem rc_in {c d : Str} {lo hi : Int} {g : Str} {tg : Tok} (h : ¬ c = d) (h2 : (!(inS c grouped) || !(inS d grouped)) = false) (hg : (g, tg) ∈ groups) (h3 : (inS c g && inS d g) = true) : rc c d lo hi = lo := by
  unfold rc; rw [if_neg (h), if_neg (by rw [h2]; exact Bool.false_ne_true), if_pos (List.any_eq_true.mpr ⟨_, hg, h3⟩)]
theorem rc_none {c d : Str} {lo hi : Int} (h : ¬ c = d) (h2 : (!(inS c grouped) || !(inS d grouped)) = false) (h3 : ∀ p ∈ groups, (inS c p.1 && inS d p.1) = false) : rc c d lo hi = hi := by
  unfold rc; rw [if_neg (h), if_neg (by rw [h2]; exact Bool.false_ne_true), if_neg (by
    intro e
    obtain ⟨p, hp, e2⟩ := List.any_eq_true.mp e
    rw [h3 p hp] at e2; cases e2)]

local macro_rules | `(tactic| k_all) => `(tactic| assumption)
local macro_rules | `(tactic| k_room) => `(tactic| ktr_room)
local macro_rules | `(tactic| k_mem) => `(tactic| exact List.mem_append.mpr (.inl (by assumption)))
local macro_rules | `(tactic| walk_at "mine seg") => `(tactic| (first | (refine' SegF.here ?sgC; (case sgC => assumption)) | (refine' SegF.there ?sgA ?sgB; (case sgA => k_ne); (case sgB => walk_at "mine seg"))))
local macro_rules | `(tactic| walk_at "eval Lambda") => `(tactic| (k_here; k_dflt (refine' lam_evalT ?F ?N ?T ?C ?S ?hT ?hN ?hd ?hcl ?_; (case F => k_asm); (case N => k_asm); (case T => k_asm); (case C => kn_code); (case S => walk_at "mine seg"); (case hT => assumption); (case hN => kcj_all); (case hd => exact rfl); (case hcl => exact rfl); k_whole); intro f' c' oc' vs' t' ct' tabs' h' tk' F' N' hT' hm' d1' d2' l1 lt'; (try dsimp only at N'); (try k_lt l1)))
local macro_rules | `(tactic| walk_at "call type:map") => `(tactic| (k_here; (with_reducible show wpAny _ _ (call (Value.type "map") [_, Value.ref _]) _ _ _); k_dflt (refine' call_map_N ?k1 ?k2 ?k3 ?_; (case k1 => k_asm); (case k2 => k_asm); (case k3 => k_mem); k_whole); intro I' h' F' N' l1; (try k_lt l1)))

local macro_rules | `(tactic| walk_at "call builtin:any") => `(tactic| (k_here; (with_reducible show wpAny _ _ (call (Value.builtin "any") [Value.ref _]) _ _ _); k_dflt (refine' any_map2 (fun z => !(inS z (Str.ofString "AEIOUYBPCKQDTLRMNGJFPVSXZCSZ"))) ?hh ?F ?N ?off ?mp ?T ?D ?hf ?_; (case hh => exact rfl); (case F => k_asm); (case N => k_asm); (case off => k_all); (case mp => k_mem); (case T => k_mem); (case D => k_mem); (case hf => (intro z9 tz9 k9 h9 tk9 Q9 hz9 F9 N9 hq9; (refine wpAny_call ?_); kla_enter; k_steps; (refine' hq9 _ _ ?e2 ?e3; (case e2 => k_asm); (case e3 => first | k_asm | (refine' cb_drop ?cbN ?cbS; (case cbN => assumption); (case cbS => kcj_all)))))); k_whole); intro h' tk' F' N'))

local macro_rules | `(tactic| walk_at "call builtin:all") => `(tactic| (k_here; (with_reducible show wpAny _ _ (call (Value.builtin "all") [Value.ref _]) _ _ _); k_dflt (refine' all_map2 (fun z => inS z ?gq) ?hh ?F ?N ?off ?mp ?T ?D ?hf ?_; (case hh => exact rfl); (case F => k_asm); (case N => k_asm); (case off => k_all); (case mp => k_mem); (case T => k_mem); (case D => k_mem); (case hf => (intro z9 tz9 k9 h9 tk9 Q9 hz9 F9 N9 hq9; (refine wpAny_call ?_); kla_enter; k_steps; (refine' hq9 _ _ ?e2 ?e3; (case e2 => k_asm); (case e3 => first | k_asm | (refine' cb_drop ?cbN ?cbS; (case cbN => assumption); (case cbS => kcj_all)))))); k_whole); intro h' tk' F' N'))

set_option maxRecDepth 100000 in
set_option maxHeartbeats 8000000 in
theorem rcost_spec {w : World} {p : Program} {loose : List Str} {mean : ExcName → Option Value} {mg mb : Str → Option Value} {news : List (Addr × Obj)}
   {dp un : Nat} {gd : Option (List Code)} {cn : Str} {cs : Scope} {a : Addr} {ccd : Value} {cl : List (Str × Addr)} {outer : List Env} {A₀ : Around} {base h₀ : Heap} {L : Addr} {m : Str → Option Value} {s : Shared} {R : Result → Shared → Prop} {lo hi : Int} {k1 k2 k3 k4 k5 k6 : Int} {t1 t2 t3 t4 t5 t6 u1 u2 u3 u6 : Tok} {x dx : Addr} {c d : Str} {tx ty : Tok} {tabs : List (Addr × Obj)}
   (B : Below A₀ base outer h₀) (F : Fr h₀ L s.heap m) (X : (hd.heap_39 w.params).In h₀) (N : News h₀ L s.heap ((x, instObj 192 dx) :: (dx, edDict lo hi k1 k2 k3 k4 k5 k6 t1 t2 t3 t4 t5 t6 u1 u2 u3 u6) :: (tabs ++ news))) (T : Top p loose mean mg mb h₀) (hck : cs.kind = .function)
   (hroom : dp + 4 < recursionLimit) (hunits : un + 32 < cLine) (codeHd : CodeHd base 176 172) (hx1 : @LT.lt Nat _ dx x) (hx2 : @LT.lt Nat _ 172 dx) (hoff : ∀ p ∈ news, p.1 ≠ 172) (hT0 : TabsOk lamQ tabs)
   (hret : ∀ t tabs' h' tk', Tabs lamQ tabs ((x, instObj 192 dx) :: (dx, edDict lo hi k1 k2 k3 k4 k5 k6 t1 t2 t3 t4 t5 t6 u1 u2 u3 u6) ::  news) tabs' → Fr h₀ L h' m → News h₀ L h' ((x, instObj 192 dx) :: (dx, edDict lo hi k1 k2 k3 k4 k5 k6 t1 t2 t3 t4 t5 t6 u1 u2 u3 u6) :: (tabs' ++ news)) → R (.ok (.ret (.int (rc c d lo hi) t))) { s with heap := h', toks := tk' }) :
   codeAny (model PySem.Challenge.rw_br0031_01.row.prog w) (ktrTop dp un gd cn cs L a ccd cl outer) (.call (.ref 177) ⟨[.ref x, .str c tx, .str d ty], []⟩) R s := by
  w_top off
  revert X; k_fill; intro X
  have hT1 : Tabs lamQ tabs ((x, instObj 192 dx) :: (dx, edDict lo hi k1 k2 k3 k4 k5 k6 t1 t2 t3 t4 t5 t6 u1 u2 u3 u6) ::  news) tabs := Tabs.start hT0
  (refine' rest_cells ?k1 ?k2 ?k3 ?k4 ?k5 ?kA ?kF ?kK ?k6 ?k7 ?k8 ?kV ?kP ?kG ?kB ?kD ?_ ?c2 ?c3 ?c4; (case kA => exact rfl); (case kF => exact rfl); (case kK => assumption); (case k1 => k_asm); (case k2 => k_asm); (case k3 => k_asm); (case k4 => k_asm); (case k5 => k_asm); (case k6 => k_is); (case k7 => k_is); (case k8 => ktr_room); (case kV => kl_lit); (case kP => exact rfl); (case kG => exact fun _ => rfl); (case kB => exact fun _ => rfl); (case kD => decide +kernel); (case c2 => exact rfl); (case c3 => exact rfl); (case c4 => exact rfl); k_whole)
  intro D1 g1 L1 h1 tk1 cells1 l01 lD1 FG1 F1 N1 Y1 B1 X1 T1 l11
  (try k_lt l01); (try k_lt l11)
  obtain ⟨oA, oB, hE, dA, dB⟩ := CellsAre.two Y1
  subst hE
  clear Y1
  (try simp only [List.cons_append, List.nil_append] at N1)
  (try dsimp only); (try k_lift B1); (try k_fold)
  k_steps
  · (refine' cast_ret ?e0 (hret _ _ _ _ ?e1 ?e2 ?e3); (case e0 => exact rc_same (by assumption)); (case e1 => assumption); (case e2 => k_asm); (case e3 => first | k_asm | (refine' cb_drop ?cbN ?cbS; (case cbN => assumption); (case cbS => kcj_all))))
  · (refine' cast_ret ?e0 (hret _ _ _ _ ?e1 ?e2 ?e3); (case e0 => exact rc_out (by assumption) (by assumption)); (case e1 => assumption); (case e2 => k_asm); (case e3 => first | k_asm | (refine' cb_drop ?cbN ?cbS; (case cbN => assumption); (case cbS => kcj_all))))
  · rename Tabs _ _ _ _ => hTn
    rename Fr _ _ _ _ => Fn
    rename News _ _ _ _ => Nn
    k_dflt (refine' group_loop (gs := groups) (TP := Tabs lamQ tabs ((x, instObj 192 dx) :: (dx, edDict lo hi k1 k2 k3 k4 k5 k6 t1 t2 t3 t4 t5 t6 u1 u2 u3 u6) ::  news)) (fx := [(L1 + 1, oB), (D1, pairTup c d tx ty 0), (x, instObj 192 dx), (dx, edDict lo hi k1 k2 k3 k4 k5 k6 t1 t2 t3 t4 t5 t6 u1 u2 u3 u6)]) (news := news) (T0 := 155) (h₀ := g1) (o0 := oA) (fun g => inS c g && inS d g) Fn ?hc ?hxk ?hck ?hh ?hT ?h ?ho0 ?hfx ?hnw ?hT0 ?htc ?turn ?done)
    (case hc => exact rfl)
    (case hxk => exact rfl)
    (case hck => exact rfl)
    (case hh => exact rfl)
    (case hT0 => exact hTn)
    (case hT => exact tupK X1 (by k_is))
    (case ho0 => exact ⟨_, dA⟩)
    (case hfx => k_all)
    (case hnw => exact fun p hp => Nat.ne_of_lt (Nat.lt_of_lt_of_le (kst_ltOf l11.2.2 p (List.mem_append_right _ hp)) (Nat.le_add_right _ 2)))
    (case htc => (rename (∀ p ∈ _, (∃ q ∈ tabs, _) ∨ _) => ltn); exact tabs_off ltn (fun p hp => Nat.ne_of_lt (Nat.lt_of_lt_of_le (kst_ltOf l11.2.2 p (List.mem_append_left _ hp)) (Nat.le_add_right _ 2))) (by k_mem))
    (case h =>
      walk1
      walk1
      walk1
      refine ⟨rfl, _, _, rfl, ?hF, ?hN⟩
      (case hF => assumption)
      (case hN =>
        simp only [List.cons_append, List.nil_append]
        refine' cb_drop ?cbN ?cbS
        (case cbN => assumption)
        (case cbS => kcj_all)))
    (case turn =>
      intro k g tg o tabs2 I2 h2 tk2 hg hT2 ho2 hlt d2 F2 N2
      simp only [List.cons_append, List.nil_append] at N2 hlt
      k_lt hlt
      k_steps
      · (refine' cast_ret ?e0 (hret _ _ _ _ ?e1 ?e2 ?e3); (case e0 => exact rc_in (by assumption) (by assumption) hg (by assumption)); (case e1 => assumption); (case e2 => k_asm); (case e3 => first | k_asm | (refine' cb_drop ?cbN ?cbS; (case cbN => assumption); (case cbS => kcj_all))))
      · rename Tabs _ _ _ _ => hTm
        rename (∀ p ∈ _, (∃ q ∈ tabs2, _) ∨ _) => ltm
        (refine' ⟨?w0, _, _, _, _, _, rfl, ?wF, ?wN, d2, hTm, ?wo⟩; (case w0 => assumption); (case wF => k_asm); (case wo => exact fun p hp => ⟨tabs_off ltm (fun p hp => (ho2 p hp).1) (by k_mem) p hp, tabs_off ltm (fun p hp => (ho2 p hp).2) (by k_mem) p hp⟩); (case wN => (simp only [List.cons_append, List.nil_append]; first | k_asm | (refine' cb_drop ?cbN ?cbS; (case cbN => assumption); (case cbS => kcj_all))))))
    (case done =>
      intro o v tabs2 h2 tk2 hno hT2 d2 F2 N2
      simp only [List.cons_append, List.nil_append] at N2
      k_steps
      (refine' cast_ret ?e0 (hret _ _ _ _ ?e1 ?e2 ?e3); (case e0 => exact rc_none (by assumption) (by first | assumption | simpa using (by assumption)) hno); (case e1 => assumption); (case e2 => k_asm); (case e3 => first | k_asm | (refine' cb_drop ?cbN ?cbS; (case cbN => assumption); (case cbS => kcj_all)))))
end Mine

-- MDc
namespace Mine
open PySem PySem.W PySem.Calls PyProof.Rows
local macro_rules | `(tactic| walk_at "mine enter") => `(tactic| (refine' code_def ?k1 ?k2 ?k3 ?k4 ?k5 ?kA ?kF ?kK ?k6 ?k7 ?k8 ?k9 ?kB ?_ ?c2 ?c3 ?c4 ?c5; (case kA => exact rfl); (case kF => exact rfl); (case kK => assumption); (case k1 => k_asm); (case k2 => k_asm); (case k3 => k_asm); (case k4 => k_asm); (case k5 => k_asm); (case k6 => k_is); (case k7 => k_is); (case k8 => ktr_room); (case k9 => first | exact BindsTo.of_eq rfl | exact binds_K (by k_in) rfl (by k_is) rfl rfl rfl); (case c5 => decide); (case kB => exact locs rfl); (case c2 => exact rfl); (case c3 => exact rfl); (case c4 => exact rfl); k_whole; intro g' L' h' FG' F' N' B' X' T'; (try dsimp only); (try k_lift B'); (try k_fold)))
local macro_rules | `(tactic| walk_at "mine enterC") => `(tactic| (refine' code_defC ?k1 ?k2 ?k3 ?k4 ?k5 ?kA ?kF ?kK ?k6 ?k7 ?k8 ?k9 ?kB ?kD ?_ ?c2 ?c3 ?c4; (case kA => exact rfl); (case kF => exact rfl); (case kK => assumption); (case k1 => k_asm); (case k2 => k_asm); (case k3 => k_asm); (case k4 => k_asm); (case k5 => k_asm); (case k6 => k_is); (case k7 => k_is); (case k8 => ktr_room); (case k9 => exact BindsTo.of_eq rfl); (case kB => exact rfl); (case kD => decide +kernel); (case c2 => exact rfl); (case c3 => exact rfl); (case c4 => exact rfl); k_whole; intro g' L' h' tk' cells' FG' F' N' Y' B' X' T' l1; (try k_lt l1); k_cells Y'; (try simp only [List.cons_append, List.nil_append] at N'); (try dsimp only); (try k_lift B'); (try k_fold)))
local macro_rules | `(tactic| walk_at "mine enterR") => `(tactic| (refine' kp_rest ?k1 ?k2 ?k3 ?k4 ?k5 ?kA ?kF ?kK ?k6 ?k7 ?k8 ?kV ?kP ?kG ?kB ?_ ?c2 ?c3 ?c4 ?c5; (case kA => exact rfl); (case kF => exact rfl); (case kK => assumption); (case k1 => k_asm); (case k2 => k_asm); (case k3 => k_asm); (case k4 => k_asm); (case k5 => k_asm); (case k6 => k_is); (case k7 => k_is); (case k8 => ktr_room); (case kV => kl_lit); (case kP => exact rfl); (case kG => exact fun _ => rfl); (case kB => exact fun _ => locs rfl); (case c5 => decide); (case c2 => exact rfl); (case c3 => exact rfl); (case c4 => exact rfl); k_whole; intro D' g' L' h' l1 FG' F' N' B' X' T'; (try k_lt l1); (try dsimp only); (try k_lift B'); (try k_fold)))
local macro_rules | `(tactic| walk_at "mine enterRC") => `(tactic| (refine' rest_cells ?k1 ?k2 ?k3 ?k4 ?k5 ?kA ?kF ?kK ?k6 ?k7 ?k8 ?kV ?kP ?kG ?kB ?kD ?_ ?c2 ?c3 ?c4; (case kA => exact rfl); (case kF => exact rfl); (case kK => assumption); (case k1 => k_asm); (case k2 => k_asm); (case k3 => k_asm); (case k4 => k_asm); (case k5 => k_asm); (case k6 => k_is); (case k7 => k_is); (case k8 => ktr_room); (case kV => kl_lit); (case kP => exact rfl); (case kG => exact fun _ => rfl); (case kB => exact fun _ => rfl); (case kD => decide +kernel); (case c2 => exact rfl); (case c3 => exact rfl); (case c4 => exact rfl); k_whole; intro D' g' L' h' tk' cells' l0 lD FG' F' N' Y' B' X' T' l1; (try k_lt l0); (try k_lt l1); k_cells Y'; (try simp only [List.cons_append, List.nil_append] at N'); (try dsimp only); (try k_lift B'); (try k_fold)))

local macro_rules | `(tactic| walk_at "eval Call Attribute") => `(tactic| (k_here; (with_reducible show wpAny _ _ (eval (Expr.Call (Expr.Attribute (Expr.Name _ _) _ _) [Expr.Starred _ _] [] _) _) _ _ _); refine starCall_ ?_))
local macro_rules | `(tactic| walk_at "getAttr ref") => `(tactic| (k_here; (with_reducible show wpAny _ _ (getAttr _ (Str.ofString "_ident") _) _ _ _); k_dflt (refine' get_sm ?k1 ?k2 ?k4 ?k5 ?k6 ?k7 ?k9 ?k10 ?k11 ?k12 ?k13 ?k14 ?_; (case k1 => k_asm); (case k2 => k_asm); (case k4 => k_inst); (case k5 => k_is); (case k6 => k_is); (case k7 => k_is); (case k9 => k_is); (case k10 => k_is); (case k11 => decide +kernel); (case k12 => k_get); (case k13 => k_is); (case k14 => k_handed); k_whole)))
local macro_rules | `(tactic| walk_at "callWith ref") => `(tactic| (k_here; (with_reducible show wpAny _ _ (callWith _ (Value.ref _) [] (backTo _ (starEach [Expr.Starred _ _] _)) []) _ _ _); k_dflt (first
  | (refine' callWith_S ?k1 ?k2 ?_; (case k1 => k_asm); (case k2 => k_is); k_whole)
  | (refine' callWith_SM ?kX ?k1 ?k2 ?k3 ?_; (case kX => assumption); (case k1 => k_asm); (case k2 => k_mem); (case k3 => k_is); k_whole)
  | (refine' callWith_SC ?k1 ?k2 ?_; (case k1 => k_inst); (case k2 => exact rfl); k_whole))))

local macro_rules | `(tactic| k_all) => `(tactic| assumption)
local macro_rules | `(tactic| k_room) => `(tactic| ktr_room)
local macro_rules | `(tactic| k_mem) => `(tactic| exact List.mem_append.mpr (.inl (by assumption)))
local macro_rules | `(tactic| walk_at "mine seg") => `(tactic| (first | (refine' SegF.here ?sgC; (case sgC => assumption)) | (refine' SegF.there ?sgA ?sgB; (case sgA => k_ne); (case sgB => walk_at "mine seg"))))
local macro_rules | `(tactic| walk_at "eval Lambda") => `(tactic| (k_here; k_dflt (refine' lam_evalT ?F ?N ?T ?C ?S ?hT ?hN ?hd ?hcl ?_; (case F => k_asm); (case N => k_asm); (case T => k_asm); (case C => kn_code); (case S => walk_at "mine seg"); (case hT => assumption); (case hN => kcj_all); (case hd => exact rfl); (case hcl => exact rfl); k_whole); intro f' c' oc' vs' t' ct' tabs' h' tk' F' N' hT' hm' d1' d2' l1 lt'; (try dsimp only at N'); (try k_lt l1)))
local macro_rules | `(tactic| walk_at "call type:map") => `(tactic| (k_here; (with_reducible show wpAny _ _ (call (Value.type "map") [_, Value.ref _]) _ _ _); k_dflt (refine' call_map_N ?k1 ?k2 ?k3 ?_; (case k1 => k_asm); (case k2 => k_asm); (case k3 => k_mem); k_whole); intro I' h' F' N' l1; (try k_lt l1)))

theorem Tabs.sub {q : Str} {t0 N0 N1 t1 : List (Addr × Obj)} (h : Tabs q t0 N1 t1) (hs : ∀ p ∈ N0, p ∈ N1) : Tabs q t0 N0 t1 := ⟨h.ok, fun p hp => by
  rcases h.up p hp with e | e
  · exact .inl e
  · exact .inr fun r hr => e r (hs r hr)⟩

theorem rcost_any {w : World} {p : Program} {loose : List Str} {mean : ExcName → Option Value} {mg mb : Str → Option Value} 
   {dp un : Nat} {gd : Option (List Code)} {cn : Str} {cs : Scope} {a : Addr} {ccd : Value} {cl : List (Str × Addr)} {outer : List Env} {A₀ : Around} {base h₀ : Heap} {L : Addr} {m : Str → Option Value} {s : Shared} {R : Result → Shared → Prop} {lo hi : Int} {k1 k2 k3 k4 k5 k6 : Int} {t1 t2 t3 t4 t5 t6 u1 u2 u3 u6 : Tok} {x dx : Addr} {c d : Str} {tx ty : Tok} {tabs led : List (Addr × Obj)} {g : List (Addr × Obj) → List (Addr × Obj)}
   (B : Below A₀ base outer h₀) (F : Fr h₀ L s.heap m) (X : (hd.heap_39 w.params).In h₀) (N : News h₀ L s.heap led) (T : Top p loose mean mg mb h₀) (hck : cs.kind = .function)
   (hroom : dp + 4 < recursionLimit) (hunits : un + 32 < cLine) (codeHd : CodeHd base 176 172) (hx1 : @LT.lt Nat _ dx x) (hx2 : @LT.lt Nat _ 172 dx)
   (S : SegF tabs led g) (mi : (x, instObj 192 dx) ∈ g []) (md : (dx, edDict lo hi k1 k2 k3 k4 k5 k6 t1 t2 t3 t4 t5 t6 u1 u2 u3 u6) ∈ g []) (hT0 : TabsOk lamQ tabs)
   (hret : ∀ t tabs' h' tk', Tabs lamQ tabs (g []) tabs' → Fr h₀ L h' m → News h₀ L h' (g tabs') → R (.ok (.ret (.int (rc c d lo hi) t))) { s with heap := h', toks := tk' }) :
   codeAny (model PySem.Challenge.rw_br0031_01.row.prog w) (ktrTop dp un gd cn cs L a ccd cl outer) (.call (.ref 177) ⟨[.ref x, .str c tx, .str d ty], []⟩) R s := by
  obtain ⟨own, rest, rfl, hg, h1, h2⟩ := S.split
  have e0 : g [] = own ++ rest := by rw [hg]; rfl
  rw [e0] at mi md hret
  refine rcost_spec (x := x) (dx := dx) (tabs := tabs) (lo := lo) (hi := hi) (k1 := k1) (k2 := k2) (k3 := k3) (k4 := k4) (k5 := k5) (k6 := k6) (t1 := t1) (t2 := t2) (t3 := t3) (t4 := t4) (t5 := t5) (t6 := t6) (u1 := u1) (u2 := u2) (u3 := u3) (u6 := u6) (news := own ++ rest) B F X (cb_drop N fun p hp => ?_) T hck hroom hunits codeHd hx1 hx2 (fun p hp => ?_) hT0 fun t tabs' h' tk' hT F' N' => hret t tabs' h' tk' (hT.sub fun p hp => .tail _ (.tail _ hp)) F' (?_ : News h₀ L h' (g tabs'))
  · simp only [List.mem_cons, List.mem_append] at hp mi md ⊢
    rcases hp with rfl | rfl | hp | hp | hp
    · rcases mi with h | h
      · exact .inl h
      · exact .inr (.inr h)
    · rcases md with h | h
      · exact .inl h
      · exact .inr (.inr h)
    · exact .inr (.inl hp)
    · exact .inl hp
    · exact .inr (.inr hp)
  · rcases List.mem_append.mp hp with hp | hp
    · exact h1 p hp
    · exact h2 p hp
  · rw [hg]
    refine cb_drop N' fun p hp => ?_
    simp only [List.mem_cons, List.mem_append] at hp ⊢
    rcases hp with hp | hp | hp
    · exact .inr (.inr (.inr (.inl hp)))
    · exact .inr (.inr (.inl hp))
    · exact .inr (.inr (.inr (.inr hp)))

local macro_rules | `(tactic| walk_at "mine spec") => `(tactic| first | (refine' ident_spec ?k1 ?k2 ?k3 ?k4 ?k5 ?kK ?kd ?ku  ?_; (case k1 => k_asm); (case k2 => k_asm); (case k3 => k_asm); (case k4 => k_asm); (case k5 => k_asm); (case kK => first | exact rfl | assumption); (case kd => ktr_room); (case ku => ktr_units);  k_whole; intro h' tk' F' N') | (refine' rcost_any ?k1 ?k2 ?k3 ?k4 ?k5 ?kK ?kd ?ku ?c1 ?c2 ?c3 ?c4 ?c5 ?c6 ?c7 ?_; (case k1 => k_asm); (case k2 => k_asm); (case k3 => k_asm); (case k4 => k_asm); (case k5 => k_asm); (case kK => first | exact rfl | assumption); (case kd => ktr_room); (case ku => ktr_units); (case c1 => assumption); (case c2 => assumption); (case c3 => assumption); (case c4 => walk_at "mine seg"); (case c5 => first | k_mem | kcj_all | (exact List.Mem.head _) | (repeat' (first | assumption | apply List.Mem.head | apply List.Mem.tail))); (case c6 => first | k_mem | kcj_all | (exact List.Mem.head _) | (repeat' (first | assumption | apply List.Mem.head | apply List.Mem.tail))); (case c7 => assumption); k_whole; intro t' tabs' h' tk' hT' F' N'; (try simp only [List.cons_append, List.nil_append] at N')))
local macro_rules | `(tactic| walk_at "call ref") => `(tactic| (k_here; k_dflt (first | (refine wpAny_call ?_; walk_at "mine spec") | (refine call_meth (by k_asm) (by k_mem) ?_; walk_at "mine spec")); (try dsimp only); (try k_fold)))

/-- the price of a letter alone, as d_cost reckons it -/
def dc (c d : Str) (lo hi : Int) : Int := if (!decide (c = d) && inS c (Str.ofString "HW")) = true then lo else rc c d lo hi
theorem dc_same {c d : Str} {lo hi : Int} (h : c = d) : dc c d lo hi = rc c d lo hi := by unfold dc; rw [if_neg (by simp [h])]
theorem dc_lo {c d : Str} {lo hi : Int} (h : ¬ c = d) (h2 : (Builtin.Str.occurrences (Str.ofString "HW") c 0 (Str.ofString "HW").length 1).isEmpty = false) : dc c d lo hi = lo := by unfold dc inS; rw [if_pos (by simp [h, h2])]
theorem dc_rc {c d : Str} {lo hi : Int} (h2 : (Builtin.Str.occurrences (Str.ofString "HW") c 0 (Str.ofString "HW").length 1).isEmpty = true) : dc c d lo hi = rc c d lo hi := by unfold dc inS; rw [if_neg (by simp [h2])]

set_option maxRecDepth 100000 in
set_option maxHeartbeats 8000000 in
theorem dcost_spec {w : World} {p : Program} {loose : List Str} {mean : ExcName → Option Value} {mg mb : Str → Option Value} {news : List (Addr × Obj)}
   {dp un : Nat} {gd : Option (List Code)} {cn : Str} {cs : Scope} {a : Addr} {ccd : Value} {cl : List (Str × Addr)} {outer : List Env} {A₀ : Around} {base h₀ : Heap} {L : Addr} {m : Str → Option Value} {s : Shared} {R : Result → Shared → Prop} {lo hi : Int} {k1 k2 k3 k4 k5 k6 : Int} {t1 t2 t3 t4 t5 t6 u1 u2 u3 u6 : Tok} {x dx : Addr} {c d : Str} {tx ty : Tok} {tabs : List (Addr × Obj)}
   (B : Below A₀ base outer h₀) (F : Fr h₀ L s.heap m) (X : (hd.heap_39 w.params).In h₀) (N : News h₀ L s.heap ((x, instObj 192 dx) :: (dx, edDict lo hi k1 k2 k3 k4 k5 k6 t1 t2 t3 t4 t5 t6 u1 u2 u3 u6) :: (tabs ++ news))) (T : Top p loose mean mg mb h₀) (hck : cs.kind = .function)
   (hroom : dp + 5 < recursionLimit) (hunits : un + 40 < cLine) (codeHd : CodeHd base 176 172) (hx1 : @LT.lt Nat _ dx x) (hx2 : @LT.lt Nat _ 172 dx) (hoff : ∀ p ∈ news, p.1 ≠ 172) (hT0 : TabsOk lamQ tabs)
   (hret : ∀ t tabs' h' tk', Tabs lamQ tabs ((x, instObj 192 dx) :: (dx, edDict lo hi k1 k2 k3 k4 k5 k6 t1 t2 t3 t4 t5 t6 u1 u2 u3 u6) ::  news) tabs' → Fr h₀ L h' m → News h₀ L h' ((x, instObj 192 dx) :: (dx, edDict lo hi k1 k2 k3 k4 k5 k6 t1 t2 t3 t4 t5 t6 u1 u2 u3 u6) :: (tabs' ++ news)) → R (.ok (.ret (.int (dc c d lo hi) t))) { s with heap := h', toks := tk' }) :
   codeAny (model PySem.Challenge.rw_br0031_01.row.prog w) (ktrTop dp un gd cn cs L a ccd cl outer) (.call (.ref 184) ⟨[.ref x, .str c tx, .str d ty], []⟩) R s := by
  w_top off
  revert X; k_fill; intro X
  (walk_at "mine enterR")
  k_steps
  · (refine' cast_ret (x := dc c d lo hi) ?e0 (hret _ _ _ _ ?e1 ?e2 ?e3); (case e0 => exact dc_same (by assumption)); (case e1 => (refine' Tabs.sub ?tA ?tB; (case tA => assumption); (case tB => kcj_all))); (case e2 => k_asm); (case e3 => first | k_asm | (refine' cb_drop ?cbN ?cbS; (case cbN => assumption); (case cbS => kcj_all))))
  · (refine' cast_ret (x := dc c d lo hi) ?e0 (hret _ _ _ _ ?e1 ?e2 ?e3); (case e0 => exact dc_rc (by assumption)); (case e1 => (refine' Tabs.sub ?tA ?tB; (case tA => assumption); (case tB => kcj_all))); (case e2 => k_asm); (case e3 => first | k_asm | (refine' cb_drop ?cbN ?cbS; (case cbN => assumption); (case cbS => kcj_all))))
  · (refine' cast_ret (x := dc c d lo hi) ?e0 (hret _ _ _ _ ?e1 ?e2 ?e3); (case e0 => exact dc_lo (by assumption) (by assumption)); (case e1 => exact Tabs.start (by assumption)); (case e2 => k_asm); (case e3 => first | k_asm | (refine' cb_drop ?cbN ?cbS; (case cbN => assumption); (case cbS => kcj_all))))

theorem dcost_any {w : World} {p : Program} {loose : List Str} {mean : ExcName → Option Value} {mg mb : Str → Option Value} 
   {dp un : Nat} {gd : Option (List Code)} {cn : Str} {cs : Scope} {a : Addr} {ccd : Value} {cl : List (Str × Addr)} {outer : List Env} {A₀ : Around} {base h₀ : Heap} {L : Addr} {m : Str → Option Value} {s : Shared} {R : Result → Shared → Prop} {lo hi : Int} {k1 k2 k3 k4 k5 k6 : Int} {t1 t2 t3 t4 t5 t6 u1 u2 u3 u6 : Tok} {x dx : Addr} {c d : Str} {tx ty : Tok} {tabs led : List (Addr × Obj)} {g : List (Addr × Obj) → List (Addr × Obj)}
   (B : Below A₀ base outer h₀) (F : Fr h₀ L s.heap m) (X : (hd.heap_39 w.params).In h₀) (N : News h₀ L s.heap led) (T : Top p loose mean mg mb h₀) (hck : cs.kind = .function)
   (hroom : dp + 5 < recursionLimit) (hunits : un + 40 < cLine) (codeHd : CodeHd base 176 172) (hx1 : @LT.lt Nat _ dx x) (hx2 : @LT.lt Nat _ 172 dx)
   (S : SegF tabs led g) (mi : (x, instObj 192 dx) ∈ g []) (md : (dx, edDict lo hi k1 k2 k3 k4 k5 k6 t1 t2 t3 t4 t5 t6 u1 u2 u3 u6) ∈ g []) (hT0 : TabsOk lamQ tabs)
   (hret : ∀ t tabs' h' tk', Tabs lamQ tabs (g []) tabs' → Fr h₀ L h' m → News h₀ L h' (g tabs') → R (.ok (.ret (.int (dc c d lo hi) t))) { s with heap := h', toks := tk' }) :
   codeAny (model PySem.Challenge.rw_br0031_01.row.prog w) (ktrTop dp un gd cn cs L a ccd cl outer) (.call (.ref 184) ⟨[.ref x, .str c tx, .str d ty], []⟩) R s := by
  obtain ⟨own, rest, rfl, hg, h1, h2⟩ := S.split
  have e0 : g [] = own ++ rest := by rw [hg]; rfl
  rw [e0] at mi md hret
  refine dcost_spec (x := x) (dx := dx) (tabs := tabs) (lo := lo) (hi := hi) (k1 := k1) (k2 := k2) (k3 := k3) (k4 := k4) (k5 := k5) (k6 := k6) (t1 := t1) (t2 := t2) (t3 := t3) (t4 := t4) (t5 := t5) (t6 := t6) (u1 := u1) (u2 := u2) (u3 := u3) (u6 := u6) (news := own ++ rest) B F X (cb_drop N fun p hp => ?_) T hck hroom hunits codeHd hx1 hx2 (fun p hp => ?_) hT0 fun t tabs' h' tk' hT F' N' => hret t tabs' h' tk' (hT.sub fun p hp => .tail _ (.tail _ hp)) F' (?_ : News h₀ L h' (g tabs'))
  · simp only [List.mem_cons, List.mem_append] at hp mi md ⊢
    rcases hp with rfl | rfl | hp | hp | hp
    · rcases mi with h | h
      · exact .inl h
      · exact .inr (.inr h)
    · rcases md with h | h
      · exact .inl h
      · exact .inr (.inr h)
    · exact .inr (.inl hp)
    · exact .inl hp
    · exact .inr (.inr hp)
  · rcases List.mem_append.mp hp with hp | hp
    · exact h1 p hp
    · exact h2 p hp
  · rw [hg]
    refine cb_drop N' fun p hp => ?_
    simp only [List.mem_cons, List.mem_append] at hp ⊢
    rcases hp with hp | hp | hp
    · exact .inr (.inr (.inr (.inl hp)))
    · exact .inr (.inr (.inl hp))
    · exact .inr (.inr (.inr (.inr hp)))
end Mine

-- MPair
namespace Mine
open PySem PySem.W PySem.Calls PyProof.Rows
local macro_rules | `(tactic| walk_at "mine enter") => `(tactic| (refine' code_def ?k1 ?k2 ?k3 ?k4 ?k5 ?kA ?kF ?kK ?k6 ?k7 ?k8 ?k9 ?kB ?_ ?c2 ?c3 ?c4 ?c5; (case kA => exact rfl); (case kF => exact rfl); (case kK => assumption); (case k1 => k_asm); (case k2 => k_asm); (case k3 => k_asm); (case k4 => k_asm); (case k5 => k_asm); (case k6 => k_is); (case k7 => k_is); (case k8 => ktr_room); (case k9 => first | exact BindsTo.of_eq rfl | exact binds_K (by k_in) rfl (by k_is) rfl rfl rfl); (case c5 => decide); (case kB => exact locs rfl); (case c2 => exact rfl); (case c3 => exact rfl); (case c4 => exact rfl); k_whole; intro g' L' h' FG' F' N' B' X' T'; (try dsimp only); (try k_lift B'); (try k_fold)))
local macro_rules | `(tactic| walk_at "mine enterC") => `(tactic| (refine' code_defC ?k1 ?k2 ?k3 ?k4 ?k5 ?kA ?kF ?kK ?k6 ?k7 ?k8 ?k9 ?kB ?kD ?_ ?c2 ?c3 ?c4; (case kA => exact rfl); (case kF => exact rfl); (case kK => assumption); (case k1 => k_asm); (case k2 => k_asm); (case k3 => k_asm); (case k4 => k_asm); (case k5 => k_asm); (case k6 => k_is); (case k7 => k_is); (case k8 => ktr_room); (case k9 => exact BindsTo.of_eq rfl); (case kB => exact rfl); (case kD => decide +kernel); (case c2 => exact rfl); (case c3 => exact rfl); (case c4 => exact rfl); k_whole; intro g' L' h' tk' cells' FG' F' N' Y' B' X' T' l1; (try k_lt l1); k_cells Y'; (try simp only [List.cons_append, List.nil_append] at N'); (try dsimp only); (try k_lift B'); (try k_fold)))
local macro_rules | `(tactic| walk_at "mine enterR") => `(tactic| (refine' kp_rest ?k1 ?k2 ?k3 ?k4 ?k5 ?kA ?kF ?kK ?k6 ?k7 ?k8 ?kV ?kP ?kG ?kB ?_ ?c2 ?c3 ?c4 ?c5; (case kA => exact rfl); (case kF => exact rfl); (case kK => assumption); (case k1 => k_asm); (case k2 => k_asm); (case k3 => k_asm); (case k4 => k_asm); (case k5 => k_asm); (case k6 => k_is); (case k7 => k_is); (case k8 => ktr_room); (case kV => kl_lit); (case kP => exact rfl); (case kG => exact fun _ => rfl); (case kB => exact fun _ => locs rfl); (case c5 => decide); (case c2 => exact rfl); (case c3 => exact rfl); (case c4 => exact rfl); k_whole; intro D' g' L' h' l1 FG' F' N' B' X' T'; (try k_lt l1); (try dsimp only); (try k_lift B'); (try k_fold)))
local macro_rules | `(tactic| walk_at "mine enterRC") => `(tactic| (refine' rest_cells ?k1 ?k2 ?k3 ?k4 ?k5 ?kA ?kF ?kK ?k6 ?k7 ?k8 ?kV ?kP ?kG ?kB ?kD ?_ ?c2 ?c3 ?c4; (case kA => exact rfl); (case kF => exact rfl); (case kK => assumption); (case k1 => k_asm); (case k2 => k_asm); (case k3 => k_asm); (case k4 => k_asm); (case k5 => k_asm); (case k6 => k_is); (case k7 => k_is); (case k8 => ktr_room); (case kV => kl_lit); (case kP => exact rfl); (case kG => exact fun _ => rfl); (case kB => exact fun _ => rfl); (case kD => decide +kernel); (case c2 => exact rfl); (case c3 => exact rfl); (case c4 => exact rfl); k_whole; intro D' g' L' h' tk' cells' l0 lD FG' F' N' Y' B' X' T' l1; (try k_lt l0); (try k_lt l1); k_cells Y'; (try simp only [List.cons_append, List.nil_append] at N'); (try dsimp only); (try k_lift B'); (try k_fold)))

local macro_rules | `(tactic| k_all) => `(tactic| assumption)
local macro_rules | `(tactic| k_room) => `(tactic| ktr_room)
local macro_rules | `(tactic| k_mem) => `(tactic| exact List.mem_append.mpr (.inl (by assumption)))
local macro_rules | `(tactic| walk_at "mine seg") => `(tactic| (first | (refine' SegF.here ?sgC; (case sgC => assumption)) | (refine' SegF.there ?sgA ?sgB; (case sgA => k_ne); (case sgB => walk_at "mine seg"))))
local macro_rules | `(tactic| walk_at "eval Lambda") => `(tactic| (k_here; k_dflt (refine' lam_evalT ?F ?N ?T ?C ?S ?hT ?hN ?hd ?hcl ?_; (case F => k_asm); (case N => k_asm); (case T => k_asm); (case C => kn_code); (case S => walk_at "mine seg"); (case hT => assumption); (case hN => kcj_all); (case hd => exact rfl); (case hcl => exact rfl); k_whole); intro f' c' oc' vs' t' ct' tabs' h' tk' F' N' hT' hm' d1' d2' l1 lt'; (try dsimp only at N'); (try k_lt l1)))
local macro_rules | `(tactic| walk_at "call type:map") => `(tactic| (k_here; (with_reducible show wpAny _ _ (call (Value.type "map") [_, Value.ref _]) _ _ _); k_dflt (refine' call_map_N ?k1 ?k2 ?k3 ?_; (case k1 => k_asm); (case k2 => k_asm); (case k3 => k_mem); k_whole); intro I' h' F' N' l1; (try k_lt l1)))

local macro_rules | `(tactic| walk_at "eval ListComp") => `(tactic| (k_here; k_dflt (refine LCt.ListComp_T (F₀ := by k_asm) (by with_unfolding_all rfl) (by decide) (by rfl) (by decide) (by rfl) ?_)))

local macro_rules | `(tactic| walk_at "CompSrcT") => `(tactic| (refine Stop.out ?_))

local macro_rules | `(tactic| walk_at "compareOp NotEq ref ref") => `(tactic| (k_here; k_dflt (refine' ne_empty ?k1 ?k2 ?k3 ?k4 ?_; (case k1 => k_asm); (case k2 => k_mem); (case k3 => k_mem); (case k4 => ktr_units); k_whole)))
local macro_rules | `(tactic| walk_at "mine cend") => `(tactic| (refine' compEnd_inv ?ceF ?ceN ?ceS ?ceO ?ceH ?_; (case ceF => k_asm); (case ceN => assumption); (case ceS => kcf_all); (case ceO => (first | assumption | (simp only [LCg.Off3, and_true]; assumption) | (simp only [LCg.Off3]; done))); (case ceH => (first | exact True.intro | lcg_src | assumption))))
local macro_rules | `(tactic| k_mem) => `(tactic| kcf_m)

/-- the price of a pair, as the law reckons it -/
def pp (c d : Str) (lo hi : Int) : Int := if c = d then 0 else if groups.any (fun g => inS c g.1 && inS d g.1) = true then lo else hi
theorem pp_none {c d : Str} {lo hi : Int} (h : (c == d) = false) (h2 : ∀ p ∈ groups.take 10, (inS c p.1 && inS d p.1) = false) : pp c d lo hi = hi := by
  unfold pp; rw [if_neg (by simpa using h), if_neg (by
    intro e
    obtain ⟨p, hp, e2⟩ := List.any_eq_true.mp e
    rw [h2 p hp] at e2; cases e2)]
theorem pp_some {c d : Str} {lo hi : Int} (h : (c == d) = false) (h2 : ¬ ∀ p ∈ groups.take 10, (inS c p.1 && inS d p.1) = false) : pp c d lo hi = lo := by
  unfold pp; rw [if_neg (by simpa using h)]
  by_cases e : groups.any (fun g => inS c g.1 && inS d g.1) = true
  · rw [if_pos e]
  · refine absurd (fun p hp => ?_) h2
    by_cases e3 : (inS c p.1 && inS d p.1) = true
    · exact absurd (List.any_eq_true.mpr ⟨p, hp, e3⟩) e
    · simpa using e3
theorem flt_no {c d : Str} {i : Nat} {ys : List Value} {g : Str} {tg : Tok} (hg : groups[i]? = some (g, tg)) (hy : ys = [] ↔ ∀ p ∈ groups.take i, (inS c p.1 && inS d p.1) = false) (h : (inS c g && inS d g) = false) : ys = [] ↔ ∀ p ∈ groups.take (i + 1), (inS c p.1 && inS d p.1) = false := by
  rw [List.take_add_one, hg, hy]
  refine ⟨fun e p hp => ?_, fun e p hp => e p (List.mem_append_left _ hp)⟩
  rcases List.mem_append.mp hp with hp | hp
  · exact e p hp
  · have q : p = (g, tg) := by simpa using hp
    rw [q]; exact h
theorem flt_a {c d g : Str} (h : (Builtin.Str.occurrences g c 0 g.length 1).isEmpty = true) : (inS c g && inS d g) = false := by
  unfold inS; rw [h]; rfl
theorem flt_b {c d g : Str} (h : (Builtin.Str.occurrences g d 0 g.length 1).isEmpty = true) : (inS c g && inS d g) = false := by
  unfold inS; rw [h]; exact Bool.and_false _
theorem flt_yes {c d : Str} {i : Nat} {ys : List Value} {y : Value} {g : Str} {tg : Tok} (hg : groups[i]? = some (g, tg)) (h : (Builtin.Str.occurrences g c 0 g.length 1).isEmpty = false) (h2 : (Builtin.Str.occurrences g d 0 g.length 1).isEmpty = false) : ys ++ [y] = [] ↔ ∀ p ∈ groups.take (i + 1), (inS c p.1 && inS d p.1) = false := by
  rw [List.take_add_one, hg]
  refine ⟨fun e => absurd e (by simp), fun e => ?_⟩
  have := e (g, tg) (by simp)
  simp [inS, h, h2] at this

theorem pp_same {c d : Str} {lo hi : Int} (h : c = d) : pp c d lo hi = 0 := by unfold pp; rw [if_pos h]

theorem its_at {t0 t1 t2 t3 t4 t5 t6 t7 t8 t9 : Tok} {i : Nat} {v : Value} (h : #[Value.str (Str.ofString "AEIOUY") t0, Value.str (Str.ofString "BP") t1, Value.str (Str.ofString "CKQ") t2, Value.str (Str.ofString "DT") t3, Value.str (Str.ofString "LR") t4, Value.str (Str.ofString "MN") t5, Value.str (Str.ofString "GJ") t6, Value.str (Str.ofString "FPV") t7, Value.str (Str.ofString "SXZ") t8, Value.str (Str.ofString "CSZ") t9][i]? = some v) : ∃ g tg t, groups[i]? = some (g, tg) ∧ v = .str g t := by
  match i, h with
  | 0, h => exact ⟨_, _, t0, rfl, (Option.some.inj h).symm.trans (congrArg (Value.str · t0) (by decide +kernel))⟩
  | 1, h => exact ⟨_, _, t1, rfl, (Option.some.inj h).symm.trans (congrArg (Value.str · t1) (by decide +kernel))⟩
  | 2, h => exact ⟨_, _, t2, rfl, (Option.some.inj h).symm.trans (congrArg (Value.str · t2) (by decide +kernel))⟩
  | 3, h => exact ⟨_, _, t3, rfl, (Option.some.inj h).symm.trans (congrArg (Value.str · t3) (by decide +kernel))⟩
  | 4, h => exact ⟨_, _, t4, rfl, (Option.some.inj h).symm.trans (congrArg (Value.str · t4) (by decide +kernel))⟩
  | 5, h => exact ⟨_, _, t5, rfl, (Option.some.inj h).symm.trans (congrArg (Value.str · t5) (by decide +kernel))⟩
  | 6, h => exact ⟨_, _, t6, rfl, (Option.some.inj h).symm.trans (congrArg (Value.str · t6) (by decide +kernel))⟩
  | 7, h => exact ⟨_, _, t7, rfl, (Option.some.inj h).symm.trans (congrArg (Value.str · t7) (by decide +kernel))⟩
  | 8, h => exact ⟨_, _, t8, rfl, (Option.some.inj h).symm.trans (congrArg (Value.str · t8) (by decide +kernel))⟩
  | 9, h => exact ⟨_, _, t9, rfl, (Option.some.inj h).symm.trans (congrArg (Value.str · t9) (by decide +kernel))⟩
  | n + 10, h => exact absurd h (by simp)

set_option maxRecDepth 100000 in
set_option maxHeartbeats 8000000 in
theorem pair_spec {w : World} {p : Program} {loose : List Str} {mean : ExcName → Option Value} {mg mb : Str → Option Value} {news : List (Addr × Obj)}
   {dp un : Nat} {gd : Option (List Code)} {cn : Str} {cs : Scope} {a : Addr} {ccd : Value} {cl : List (Str × Addr)} {outer : List Env} {A₀ : Around} {base h₀ : Heap} {L : Addr} {m : Str → Option Value} {s : Shared} {R : Result → Shared → Prop}  {c d : Str} {lo hi : Int} {tx ty u1 u2 : Tok}
   (B : Below A₀ base outer h₀) (F : Fr h₀ L s.heap m) (X : (hd.heap_39 w.params).In h₀) (N : News h₀ L s.heap (news)) (T : Top p loose mean mg mb h₀) (hck : cs.kind = .function)
   (hroom : dp + 4 < recursionLimit) (hunits : un + 120 < cLine) 
   (hret : ∀ t h' tk', Fr h₀ L h' m → News h₀ L h' (news) → R (.ok (.ret (.int (pp c d lo hi) t))) { s with heap := h', toks := tk' }) :
   codeAny (model PySem.Challenge.rw_br0031_01.row.prog w) (ktrTop dp un gd cn cs L a ccd cl outer) (.call (.ref 206) ⟨[.str c tx, .str d ty, .int lo u1, .int hi u2], []⟩) R s := by
  w_top off
  revert X; k_fill; intro X
  (walk_at "mine enterC")
  k_steps
  · (refine' cast_ret (x := pp c d lo hi) ?e0 (hret _ _ _ ?e2 ?e3); (case e0 => exact pp_same (eq_of_beq (by assumption))); (case e2 => k_asm); (case e3 => first | k_asm | (refine' cb_drop ?cbN ?cbS; (case cbN => assumption); (case cbS => kcj_all))))
  · refine Stop.into ?_
    refine' LCt.CompSrcT.ledger ?cH ?cF ?cN ?cM ?cZ ?_
    (case cH => exact rfl)
    (case cF => k_asm)
    (case cN => assumption)
    (case cM => k_mem)
    (case cZ => exact Nat.le_of_ble_eq_true rfl)
    intro g'
    refine' restT_inv (fun i ys => ys = [] ↔ ∀ p ∈ groups.take i, (inS c p.1 && inS d p.1) = false) ?_ ?_ ?_
    · exact ⟨fun _ p hp => absurd hp (by simp), fun _ => rfl⟩
    · intro i v ys I oI C oC D m2 h2 tk2 E2 hi hv hy hC hx F2 N2 off ne
      obtain ⟨gr, tg, t9, hg, rfl⟩ := its_at hv
      (try simp only [LCg.Off3, and_true] at off)
      k_steps
      all_goals (try (walk_at "mine cend"))
      · exact flt_no hg hy (flt_a (by assumption))
      · exact flt_no hg hy (flt_b (by assumption))
      · (refine flt_yes (c := c) (d := d) hg ?_ ?_ <;> assumption)
    · intro ys hy
      (show LCg.FinE _ _ _ _ _ _ _)
      intro D3 h3 tk3 F3 N3 o3
      k_steps
      · (refine' cast_ret (x := pp c d lo hi) ?e0 (hret _ _ _ ?e2 ?e3); (case e0 => exact pp_none (by assumption) (hy.mp (by assumption))); (case e2 => k_asm); (case e3 => first | k_asm | (refine' cb_drop ?cbN ?cbS; (case cbN => assumption); (case cbS => kcj_all))))
      · (refine' cast_ret (x := pp c d lo hi) ?e0 (hret _ _ _ ?e2 ?e3); (case e0 => exact pp_some (by assumption) (fun e => absurd (hy.mpr e) (by assumption))); (case e2 => k_asm); (case e3 => first | k_asm | (refine' cb_drop ?cbN ?cbS; (case cbN => assumption); (case cbS => kcj_all))))
end Mine

-- MAlone
namespace Mine
open PySem PySem.W PySem.Calls PyProof.Rows
local macro_rules | `(tactic| walk_at "mine enter") => `(tactic| (refine' code_def ?k1 ?k2 ?k3 ?k4 ?k5 ?kA ?kF ?kK ?k6 ?k7 ?k8 ?k9 ?kB ?_ ?c2 ?c3 ?c4 ?c5; (case kA => exact rfl); (case kF => exact rfl); (case kK => assumption); (case k1 => k_asm); (case k2 => k_asm); (case k3 => k_asm); (case k4 => k_asm); (case k5 => k_asm); (case k6 => k_is); (case k7 => k_is); (case k8 => ktr_room); (case k9 => first | exact BindsTo.of_eq rfl | exact binds_K (by k_in) rfl (by k_is) rfl rfl rfl); (case c5 => decide); (case kB => exact locs rfl); (case c2 => exact rfl); (case c3 => exact rfl); (case c4 => exact rfl); k_whole; intro g' L' h' FG' F' N' B' X' T'; (try dsimp only); (try k_lift B'); (try k_fold)))
local macro_rules | `(tactic| walk_at "mine enterC") => `(tactic| (refine' code_defC ?k1 ?k2 ?k3 ?k4 ?k5 ?kA ?kF ?kK ?k6 ?k7 ?k8 ?k9 ?kB ?kD ?_ ?c2 ?c3 ?c4; (case kA => exact rfl); (case kF => exact rfl); (case kK => assumption); (case k1 => k_asm); (case k2 => k_asm); (case k3 => k_asm); (case k4 => k_asm); (case k5 => k_asm); (case k6 => k_is); (case k7 => k_is); (case k8 => ktr_room); (case k9 => exact BindsTo.of_eq rfl); (case kB => exact rfl); (case kD => decide +kernel); (case c2 => exact rfl); (case c3 => exact rfl); (case c4 => exact rfl); k_whole; intro g' L' h' tk' cells' FG' F' N' Y' B' X' T' l1; (try k_lt l1); k_cells Y'; (try simp only [List.cons_append, List.nil_append] at N'); (try dsimp only); (try k_lift B'); (try k_fold)))
local macro_rules | `(tactic| walk_at "mine enterR") => `(tactic| (refine' kp_rest ?k1 ?k2 ?k3 ?k4 ?k5 ?kA ?kF ?kK ?k6 ?k7 ?k8 ?kV ?kP ?kG ?kB ?_ ?c2 ?c3 ?c4 ?c5; (case kA => exact rfl); (case kF => exact rfl); (case kK => assumption); (case k1 => k_asm); (case k2 => k_asm); (case k3 => k_asm); (case k4 => k_asm); (case k5 => k_asm); (case k6 => k_is); (case k7 => k_is); (case k8 => ktr_room); (case kV => kl_lit); (case kP => exact rfl); (case kG => exact fun _ => rfl); (case kB => exact fun _ => locs rfl); (case c5 => decide); (case c2 => exact rfl); (case c3 => exact rfl); (case c4 => exact rfl); k_whole; intro D' g' L' h' l1 FG' F' N' B' X' T'; (try k_lt l1); (try dsimp only); (try k_lift B'); (try k_fold)))
local macro_rules | `(tactic| walk_at "mine enterRC") => `(tactic| (refine' rest_cells ?k1 ?k2 ?k3 ?k4 ?k5 ?kA ?kF ?kK ?k6 ?k7 ?k8 ?kV ?kP ?kG ?kB ?kD ?_ ?c2 ?c3 ?c4; (case kA => exact rfl); (case kF => exact rfl); (case kK => assumption); (case k1 => k_asm); (case k2 => k_asm); (case k3 => k_asm); (case k4 => k_asm); (case k5 => k_asm); (case k6 => k_is); (case k7 => k_is); (case k8 => ktr_room); (case kV => kl_lit); (case kP => exact rfl); (case kG => exact fun _ => rfl); (case kB => exact fun _ => rfl); (case kD => decide +kernel); (case c2 => exact rfl); (case c3 => exact rfl); (case c4 => exact rfl); k_whole; intro D' g' L' h' tk' cells' l0 lD FG' F' N' Y' B' X' T' l1; (try k_lt l0); (try k_lt l1); k_cells Y'; (try simp only [List.cons_append, List.nil_append] at N'); (try dsimp only); (try k_lift B'); (try k_fold)))

local macro_rules | `(tactic| k_all) => `(tactic| assumption)
local macro_rules | `(tactic| k_room) => `(tactic| ktr_room)
local macro_rules | `(tactic| k_mem) => `(tactic| exact List.mem_append.mpr (.inl (by assumption)))
local macro_rules | `(tactic| walk_at "mine seg") => `(tactic| (first | (refine' SegF.here ?sgC; (case sgC => assumption)) | (refine' SegF.there ?sgA ?sgB; (case sgA => k_ne); (case sgB => walk_at "mine seg"))))
local macro_rules | `(tactic| walk_at "eval Lambda") => `(tactic| (k_here; k_dflt (refine' lam_evalT ?F ?N ?T ?C ?S ?hT ?hN ?hd ?hcl ?_; (case F => k_asm); (case N => k_asm); (case T => k_asm); (case C => kn_code); (case S => walk_at "mine seg"); (case hT => assumption); (case hN => kcj_all); (case hd => exact rfl); (case hcl => exact rfl); k_whole); intro f' c' oc' vs' t' ct' tabs' h' tk' F' N' hT' hm' d1' d2' l1 lt'; (try dsimp only at N'); (try k_lt l1)))
local macro_rules | `(tactic| walk_at "call type:map") => `(tactic| (k_here; (with_reducible show wpAny _ _ (call (Value.type "map") [_, Value.ref _]) _ _ _); k_dflt (refine' call_map_N ?k1 ?k2 ?k3 ?_; (case k1 => k_asm); (case k2 => k_asm); (case k3 => k_mem); k_whole); intro I' h' F' N' l1; (try k_lt l1)))

local macro_rules | `(tactic| walk_at "mine spec") => `(tactic| first | (refine' pair_spec ?k1 ?k2 ?k3 ?k4 ?k5 ?kK ?kd ?ku  ?_; (case k1 => k_asm); (case k2 => k_asm); (case k3 => k_asm); (case k4 => k_asm); (case k5 => k_asm); (case kK => first | exact rfl | assumption); (case kd => ktr_room); (case ku => ktr_units);  k_whole; intro t' h' tk' F' N'))
local macro_rules | `(tactic| walk_at "call ref") => `(tactic| (k_here; k_dflt (first | (refine wpAny_call ?_; walk_at "mine spec") | (refine call_meth (by k_asm) (by k_mem) ?_; walk_at "mine spec")); (try dsimp only); (try k_fold)))

local macro_rules | `(tactic| walk_at "exec Assign cons ListComp") => `(tactic| (k_here; k_dflt (refine Assign_ListComp_str (F₀ := by k_asm) (by rfl) (by with_unfolding_all rfl) (by with_unfolding_all rfl) (by decide) (by rfl) (by decide) (by rfl) (by rfl) (by rfl) ?_)))

local macro_rules | `(tactic| kxi_size) => `(tactic| (rw [PySem.sizeLine_eq]; omega))
local macro_rules | `(tactic| walk_at "subscriptTail") => `(tactic| (k_here; (with_reducible show wpAny _ _ (subscriptTail _ _ (Value.str _ _) (Value.int _ _)) _ _ _); (refine KXi.item (Eq.refl _) (by omega) (by omega) (by omega) ?_); intro kxiE))
local macro_rules | `(tactic| walk_at "subscriptTail") => `(tactic| (k_here; (with_reducible show wpAny _ _ (subscriptTail _ (Expr.Slice _ _ _ _) (Value.str _ _) (Value.ref _)) _ _ _); kxi_slice; intro _ _ _ _ _))
local macro_rules | `(tactic| walk_at "mine cend") => `(tactic| (refine' compEnd_inv ?ceF ?ceN ?ceS ?ceO ?ceH ?_; (case ceF => k_asm); (case ceN => assumption); (case ceS => kcf_all); (case ceO => (first | assumption | (simp only [LCg.Off3, and_true]; assumption) | (simp only [LCg.Off3]; done))); (case ceH => (first | exact True.intro | lcg_src | assumption))))
local macro_rules | `(tactic| walk_at "mine range") => `(tactic| (refine' ⟨_, _, _, _, _, _, _, rfl, rfl, ?rgR, ?rgS, ?rgN, ?rgF, ?rgW⟩; (case rgR => assumption); (case rgS => exact small_one (by omega) (by omega) (by omega) (by omega)); (case rgN => first | (refine Eq.trans (rangeSize_nat _ _) ?_; omega)); (case rgF => k_asm); (case rgW => assumption)))

local macro_rules | `(tactic| walk_at "call builtin:list.append") => `(tactic| (k_here; k_dflt (refine' append_N ?k1 ?k2 ?k3 ?k4 ?_; (case k1 => k_asm); (case k2 => k_asm); (case k3 => k_updF); (case k4 => (rw [PySem.sizeLine_eq]; omega)); k_whole); intro h' F' N'; (try dsimp only at N')))

local macro_rules | `(tactic| walk_at "exec For Name Call cons nil") => `(tactic| (k_here; refine Stop.out ?_))
local macro_rules | `(tactic| walk_at "exec For Name Name cons nil") => `(tactic| (k_here; refine Stop.out ?_))
local macro_rules | `(tactic| walk_at "exec For Tuple Call cons nil") => `(tactic| (k_here; refine Stop.out ?_))

local macro_rules | `(tactic| walk_at "mine off") => `(tactic| (intro z9 h9 h8; (repeat' (first | exact rfl | (refine off_if h9 ?_) | (refine off_in h8 ?_) | (refine off_if (fun e9 => h8 (by rw [e9]; decide)) ?_)))))

local macro_rules | `(tactic| walk_at "mine ofs") => `(tactic| (repeat' (first | assumption | (refine List.forall_mem_cons.mpr ⟨?_, ?_⟩) | k_ne)))
local macro_rules | `(tactic| walk_at "mine led") => `(tactic| (first | assumption | (refine' cb_drop ?cbN ?cbS; (case cbN => assumption); (case cbS => kcj_all))))

theorem off1_all {D : Addr} : ∀ {l : List (Addr × Obj)}, LCg.Off1 D l → ∀ p ∈ l, p.1 ≠ D
  | [], _, _, h => nomatch h
  | _ :: _, x, p, h => by
    rcases List.mem_cons.mp h with rfl | h
    · exact x.1
    · exact off1_all x.2 p h

/-- a letter behind another letter H or W -/
def hush (p c : Str) : Bool := ([Str.ofString "H", Str.ofString "W"].any fun x => x == p) && (p != c)
/-- the price of a letter alone, as the law reckons it -/
def al (p c : Str) (lo hi : Int) : Int := if hush p c = true then lo else pp p c lo hi
theorem al_lo {p c : Str} {lo hi : Int} (h : ([Str.ofString "H", Str.ofString "W"].any fun x => x == p) = true) (h2 : (p != c) = true) : al p c lo hi = lo := by unfold al hush; rw [h, h2]; rfl
theorem al_p1 {p c : Str} {lo hi : Int} (h2 : (p != c) = false) : al p c lo hi = pp p c lo hi := by unfold al hush; rw [h2, Bool.and_false]; rfl
theorem al_p2 {p c : Str} {lo hi : Int} (h : ([Str.ofString "H", Str.ofString "W"].any fun x => x == p) = false) : al p c lo hi = pp p c lo hi := by unfold al hush; rw [h]; rfl
/-- the prices of the first letters of a text -/
def aloneTo (z : Str) (k : Nat) (lo hi : Int) : List Int := hi :: (List.range k).map (fun (i : Nat) => al (Txt.item z (1 + (i : Int) * 1 - 1)) (Txt.item z (1 + (i : Int) * 1)) lo hi)
def alone (z : Str) (lo hi : Int) : List Int := aloneTo z (z.length - 1) lo hi
theorem alone_step {z : Str} {ys : List Value} {i : Nat} {lo hi v : Int} {t : Tok} (h : IntsAre ys (aloneTo z i lo hi)) (hv : al (Txt.item z (1 + (i : Int) * 1 - 1)) (Txt.item z (1 + (i : Int) * 1)) lo hi = v) : IntsAre (ys ++ [.int v t]) (aloneTo z (i + 1) lo hi) := by
  unfold aloneTo at h ⊢
  rw [List.range_succ, List.map_append, ← List.cons_append]
  refine IntsAre.append h ?_
  subst hv
  exact .cons _ t .nil
theorem snoc_rep {ys : List Value} {i : Nat} {hi : Int} {t : Tok} (h : IntsAre ys (List.replicate i hi)) : IntsAre (ys ++ [.int hi t]) (List.replicate (i + 1) hi) := by
  rw [List.replicate_succ', ]
  exact IntsAre.append h (.cons hi t .nil)
theorem head_one {z : Str} (h : 1 ≤ z.length) : (Txt.slice z none (some 1)).cps.size = 1 := by
  have e : Builtin.Str.strSliceIndices none (some 1) 1 z.length = [0] := by
    have e1 : max (0 : Int) (min 1 (z.length : Int)) = 1 := by omega
    simp [Builtin.Str.strSliceIndices, sliceRange, e1]
  unfold Txt.slice
  rw [e]
  split
  · rename_i h2
    simp at h2
    exact h2.symm
  · have h3 : 0 < z.cps.size := h
    simp [h3]
theorem aloneTo_zero {z : Str} {ys : List Value} {lo hi : Int} (h : 1 ≤ z.length) (hy : IntsAre ys (List.replicate (Txt.slice z none (some 1)).cps.size hi)) : IntsAre ys (aloneTo z 0 lo hi) := by
  rw [head_one h] at hy
  exact hy

set_option maxRecDepth 100000 in
set_option maxHeartbeats 8000000 in
theorem alone_spec {w : World} {p : Program} {loose : List Str} {mean : ExcName → Option Value} {mg mb : Str → Option Value} {news : List (Addr × Obj)}
   {dp un : Nat} {gd : Option (List Code)} {cn : Str} {cs : Scope} {a : Addr} {ccd : Value} {cl : List (Str × Addr)} {outer : List Env} {A₀ : Around} {base h₀ : Heap} {L : Addr} {m : Str → Option Value} {s : Shared} {R : Result → Shared → Prop}  {z : Str} {lo hi : Int} {tz u1 u2 : Tok}
   (B : Below A₀ base outer h₀) (F : Fr h₀ L s.heap m) (X : (hd.heap_39 w.params).In h₀) (N : News h₀ L s.heap (news)) (T : Top p loose mean mg mb h₀) (hck : cs.kind = .function)
   (hroom : dp + 6 < recursionLimit) (hunits : un + 160 < cLine) (hz : z.length ≤ 64) (hz1 : 1 ≤ z.length)
   (hret : ∀ D ys h' tk', IntsAre ys (alone z lo hi) → (∀ p ∈ news, @Ne Nat p.1 D) → Fr h₀ L h' m → News h₀ L h' ((D, LCg.lst ys) :: news) → R (.ok (.ret (.ref D))) { s with heap := h', toks := tk' }) :
   codeAny (model PySem.Challenge.rw_br0031_01.row.prog w) (ktrTop dp un gd cn cs L a ccd cl outer) (.call (.ref 211) ⟨[.str z tz, .int lo u1, .int hi u2], []⟩) R s := by
  w_top off
  revert X; k_fill; intro X
  (refine' code_defC ?k1 ?k2 ?k3 ?k4 ?k5 ?kA ?kF ?kK ?k6 ?k7 ?k8 ?k9 ?kB ?kD ?_ ?c2 ?c3 ?c4; (case kA => exact rfl); (case kF => exact rfl); (case kK => assumption); (case k1 => k_asm); (case k2 => k_asm); (case k3 => k_asm); (case k4 => k_asm); (case k5 => k_asm); (case k6 => k_is); (case k7 => k_is); (case k8 => ktr_room); (case k9 => exact BindsTo.of_eq rfl); (case kB => exact rfl); (case kD => decide +kernel); (case c2 => exact rfl); (case c3 => exact rfl); (case c4 => exact rfl); k_whole)
  intro g1 L1 h1 tk1 cells1 FG1 F1 N1 Y1 B1 X1 T1 l1
  obtain ⟨o1a, hE1, d1a⟩ := CellsAre.one Y1
  subst hE1
  clear Y1
  (try simp only [List.cons_append, List.nil_append] at N1)
  (try k_lt l1); (try dsimp only); (try k_lift B1); (try k_fold)
  k_steps
  · refine' StrSrc.intro ?hh ?hF ?hN ?hsz ?_
    (case hh => exact rfl)
    (case hF => k_asm)
    (case hN => k_asm)
    (case hsz => (rw [PySem.sizeLine_eq]; (refine Nat.le_trans (Txt.slice_le _ _ _) ?_); omega))
    intro g'
    refine' restU_inv (fun i ys => IntsAre ys (List.replicate i hi)) IntsAre.nil ?_ ?_
    · intro i v ys I oI C oC D m2 h2 tk2 E2 hi2 hv hy hC hx F2 N2 off ne
      (try simp only [LCg.Off3, and_true] at off)
      k_steps
      walk_at "mine cend"
      exact snoc_rep hy
    · intro ys hy
      (show LCg.FinA _ _ _ _ _ _ _ _)
      intro D3 h3 tk3 F3 N3 o3
      k_steps
      refine Stop.into ?_
      have hnD : ∀ p ∈ news, @Ne Nat p.1 D3 := off1_all o3.2
      have hLD : @Ne Nat (L1 + 1) D3 := o3.1
      k_dflt (refine' for_range (a := 1) (st := 1) (n := z.length - 1) [Str.ofString "hushed"] (fun _ i rest => ∃ ys', rest = (D3, LCg.lst ys') :: (L1 + 1, o1a) :: news ∧ IntsAre ys' (aloneTo z i lo hi)) ?gF ?gN ?gh ?gk ?gp ?gs ?gj ?gt ?gd)
      (case gF => k_asm)
      (case gN => k_asm)
      (case gh => exact rfl)
      (case gk => exact rfl)
      (case gp => exact rfl)
      (case gs =>
        k_steps
        walk_at "mine range")
      (case gj => exact ⟨_, rfl, aloneTo_zero hz1 hy⟩)
      (case gt =>
        rintro i kv t u rest I oI s4 h4 tk4 hi4 rfl ⟨ys', rfl, hy'⟩ off hlt F4 N4
        have hL1 : @Ne Nat (L1 + 1) I := off _ (.tail _ (.head _))
        have hnI : ∀ p ∈ news, @Ne Nat p.1 I := fun p hp => off p (.tail _ (.tail _ hp))
        have hID : @Ne Nat I D3 := Ne.symm (off _ (.head _))
        have hlen : ys'.length ≤ 64 := by rw [hy'.length]; simp only [aloneTo, List.length_cons, List.length_map, List.length_range]; omega
        simp only [offW] at F4
        k_steps
        · refine' ⟨_, _, _, _, rfl, ?uF1, ?uN1, ?uO1, ⟨_, rfl, alone_step hy' (al_lo (by assumption) (by assumption))⟩, ?uM1⟩
          (case uF1 => k_asm)
          (case uN1 => walk_at "mine led")
          (case uO1 => walk_at "mine ofs")
          (case uM1 => walk_at "mine off")
        · refine' ⟨_, _, _, _, rfl, ?uF2, ?uN2, ?uO2, ⟨_, rfl, alone_step hy' (al_p1 (by assumption))⟩, ?uM2⟩
          (case uF2 => k_asm)
          (case uN2 => walk_at "mine led")
          (case uO2 => walk_at "mine ofs")
          (case uM2 => walk_at "mine off")
        · refine' ⟨_, _, _, _, rfl, ?uF3, ?uN3, ?uO3, ⟨_, rfl, alone_step hy' (al_p2 (by assumption))⟩, ?uM3⟩
          (case uF3 => k_asm)
          (case uN3 => walk_at "mine led")
          (case uO3 => walk_at "mine ofs")
          (case uM3 => walk_at "mine off"))
      (case gd =>
        rintro u rest h5 tk5 ⟨ys', rfl, hy'⟩ F5 N5
        simp only [offW] at F5
        k_steps
        refine hret D3 ys' _ _ hy' hnD ?_ ?_
        · k_asm
        · first | k_asm | (refine' cb_drop ?cbN ?cbS; (case cbN => assumption); (case cbS => kcj_all)))
end Mine

-- MCompX
namespace Mine
open PySem PySem.W PySem.Calls PyProof.Rows PySem.Spec
set_option maxRecDepth 100000
section
variable {prog : Program} {w : World} {A : Around} {E : Value → Shared → Prop} {s : Shared} {h₀ : Heap} {L : Addr} {m : Str → Option Value} {env : Env}
/-- a turn of a comprehension that binds a cell ends -/
def XTurn (h₀ : Heap) (L : Addr) (m : Str → Option Value) (I C X D : Addr) (own : List (Addr × Obj)) (J : Value → List (Addr × Obj) → Prop) (s : Shared) (y : Value) (s' : Shared) : Prop :=
  ∃ rest h tk, s' = { s with heap := h, toks := tk } ∧ Fr h₀ L h m ∧ News h₀ L h (own ++ rest) ∧ (∀ p ∈ rest, p.1 ≠ I ∧ p.1 ≠ C ∧ p.1 ≠ X ∧ p.1 ≠ D) ∧ J y rest
theorem newCompEnv {scope : Scope} {cl : List (Str × Addr)} {x : Str} {Q : Env → Shared → Prop}
    (hcf : ∀ b, cellsFrom b scope.names cl = (x, b) :: cl) (hpc : ∀ h : Heap, pushCells h scope.names = h.push { cls := .type "cell", data := .cell none })
    (h : Q { scope, locals := s.heap.objs.size, globals := env.globals, cells := (x, s.heap.objs.size + 1) :: cl, qual := env.qual, func := none, code := env.code, frame := env.frame, builtins := env.builtins }
      { s with heap := (s.heap.push { cls := .type "dict", data := .dict #[] }).push { cls := .type "cell", data := .cell none } }) :
    wpAny (model prog w) A (newFunctionEnv scope env.globals cl [] env.qual none .none (some env)) Q E s := by
  simp only [newFunctionEnv, Option.isSome_some, if_true]
  refine wpAny_bind (wpAny_alloc ?_)
  refine wpAny_bind (wpAny_layCells _ (fun name kind cells => by cases hkc : kind == NameKind.cell <;> simp [hkc]) _ _ _ _ ?_)
  rw [hcf, hpc]
  rw [show ({ s with heap := s.heap.push { cls := .type "dict", data := .dict #[] } } : Shared).heap.objs.size = s.heap.objs.size + 1 from Heap.size_push ..]
  refine wpAny_bind ?_
  rw [List.forIn_nil]
  exact wpAny_pure (wpAny_pure h)
/-- `y = [elt for x in range(..)]`, x a cell of the comprehension's own -/
theorem Assign_ListComp_X {elt iter : Expr} {x y : Str} {px py : Pos} {scope : Scope} {cl : List (Str × Addr)} {pos spos : Pos} {a : Int} {n : Nat} {rest0 : List (Addr × Obj)} {Q : Flow → Shared → Prop} (J₀ : List (Addr × Obj) → Nat → List Value → List (Addr × Obj) → Prop)
    (_F₀ : Fr h₀ L s.heap m) (_N₀ : News h₀ L s.heap rest0) (hLe : env.locals = L) (hh : A.handled = none)
    (hsw : swapsWith (.ListComp elt [⟨.Name x px, iter, [], 0⟩] scope pos) (some (.Name y py)) spos.line env = pure true)
    (hclos : closureFor scope env = pure cl) (hkind : scope.kind = .function)
    (hnames : ∀ z ∈ scope.names, z.2 = .local → scope.names.lookup z.1 = some .local)
    (hx : ∀ C, (compEnvC scope ((x, C + 1) :: cl) C env).kindOf x = some .cell)
    (hcf : ∀ b, cellsFrom b scope.names cl = (x, b) :: cl) (hpc : ∀ h : Heap, pushCells h scope.names = h.push { cls := .type "cell", data := .cell none })
    (hy : env.kindOf y = some .local) (hp : (env.scope.kind == .class || (env.scope.kind == .module && env.locals != env.globals)) = false) (hsz : n ≤ sizeLine)
    (h : wpAny (model prog w) A (eval iter env) (RangeSrc h₀ L a 1 n m rest0 s) E s)
    (hJ : J₀ rest0 0 [] rest0)
    (turn : ∀ i kv t ys rest I oI C oC X oX D (s₁ : Shared) h tk, i < n → kv = a + (i : Int) → ys.length = i → J₀ rest0 i ys rest → oX.data = .cell (some (.int kv t)) → (∀ p ∈ rest0, p.1 < I) → (@LT.lt Nat _ I D ∧ @LT.lt Nat _ D C ∧ X = C + 1) → (∀ p ∈ rest, p.1 ≠ I ∧ p.1 ≠ C ∧ p.1 ≠ X ∧ p.1 ≠ D) → Fr h₀ L h m →
      News h₀ L h ((I, oI) :: (C, oC) :: (X, oX) :: (D, LCg.lst ys) :: rest) →
      wpAny (model prog w) A (eval elt (compEnvC scope ((x, X) :: cl) C env)) (XTurn h₀ L m I C X D [(I, oI), (C, oC), (X, oX), (D, LCg.lst ys)] (fun y rest => J₀ rest0 (i + 1) (ys ++ [y]) rest) s₁) (fun _ _ => False) { s₁ with heap := h, toks := tk })
    (done : ∀ D ys rest h tk, ys.length = n → J₀ rest0 n ys rest → Fr h₀ L h (fun z => if z = y then some (.ref D) else m z) → News h₀ L h ((D, LCg.lst ys) :: rest) → (∀ p ∈ rest, p.1 ≠ D) → Q .next { s with heap := h, toks := tk })
    (hs : ∀ x, foldedSetIterable iter env x = pure x := by intro _; rfl) :
    wpAny (model prog w) A (exec (.Assign [.Name y py] (.ListComp elt [⟨.Name x px, iter, [], 0⟩] scope pos) spos) env) Q E s := by
  subst hLe
  generalize hJ0 : J₀ rest0 = J at *
  have NE : ∀ {α : Type} {t : Sem α} {Q' : α → Shared → Prop} {E' : Value → Shared → Prop} {s' : Shared}, wpAny (model prog w) A t Q' (fun _ _ => False) s' → wpAny (model prog w) A t Q' E' s' := fun z => wpAny_mono z (fun _ _ x => x) fun _ _ x => x.elim
  rw [exec_Assign_Name_used _ _ _ _ hsw]
  refine wpAny_bind (wpAny_standAt (wpAny_bind ?_))
  show wpAny _ A (do let _ ← comprehension (.ListComp elt [⟨.Name x px, iter, [], 0⟩] scope pos) scope env _ (newList []) false (eval iter env) (some (assign (.Name y py) env))) _ _ s
  refine wpAny_bind (wpAny_mono (wpAny_comprehension_free (use := some (assign (.Name y py) env)) (Q := fun _ s' => Q .next s') rfl hs hclos hkind hnames
    (wpAny_mono h (fun xv s₁ h₁ => ?_) fun _ _ e => e)) (fun _ s' hq => wpAny_pure (wpAny_pure hq)) fun _ _ e => e)
  obtain ⟨r, b, t, u, v, h₁, tk₁, rfl, rfl, hr, hsm, hn, F₁, N₁⟩ := h₁
  refine wpAny_pyIter_range hr hsm ?_
  refine wpAny_newObj_type ?_
  -- the block's own frame, with its cell
  generalize hH2 : Heap.push h₁ { cls := .type "range_iterator", data := .fields #[rawInt a, rawInt (Builtin.Range.rangeSize a b 1), rawInt 1] } = H2
  generalize hH3 : Heap.push H2 { cls := .type "list", dict := none, data := .seq ([] : List Value).toArray } = H3
  have sz1 : H2.objs.size = h₁.objs.size + 1 := by rw [← hH2, Heap.size_push]
  have sz2 : H3.objs.size = h₁.objs.size + 1 + 1 := by rw [← hH3, Heap.size_push, sz1]
  refine newCompEnv hcf hpc ?_
  dsimp only
  show codeAny _ A (.compStart _ 0 (.ref h₁.objs.size) (.ref H2.objs.size) (compEnvC scope ((x, H3.objs.size + 1) :: cl) H3.objs.size env)) _ _
  generalize hH4 : Heap.push H3 { cls := .type "dict", data := .dict #[] } = H4
  have sz3 : H4.objs.size = h₁.objs.size + 1 + 1 + 1 := by rw [← hH4, Heap.size_push, sz2]
  generalize hH5 : Heap.push H4 { cls := .type "cell", data := .cell none } = H5
  have hI0 : h₀.get? h₁.objs.size = none := next_is_new F₁
  have fresh₀ : ∀ b, h₁.objs.size ≤ b → h₀.get? b = none := fun b hb => by
    cases e : h₀.get? b with
    | none => rfl
    | some o' => exact absurd (Heap.lt_size (F₁.keep b o' e)) (Nat.not_lt.mpr hb)
  have hLlt : env.locals < h₁.objs.size := F₁.ns.lt
  have up : ∀ b o, h₁.get? b = some o → H5.get? b = some o := fun b o e => by
    rw [← hH5, ← hH4, ← hH3, ← hH2]
    exact Heap.get?_push_of_some _ (Heap.get?_push_of_some _ (Heap.get?_push_of_some _ (Heap.get?_push_of_some _ e)))
  have eI : IsRangeIter H5 h₁.objs.size (a + ((0 : Nat) : Int) * 1) ((n : Int) - ((0 : Nat) : Int)) 1 := by
    show H5.get? _ = some _
    rw [← hH5, ← hH4, ← hH3, ← hH2, hn]
    refine Heap.get?_push_of_some _ (Heap.get?_push_of_some _ (Heap.get?_push_of_some _ ?_))
    simpa using Heap.get?_push_size h₁ rfl
  have eD : H5.get? (h₁.objs.size + 1) = some (LCg.lst []) := by
    rw [← sz1, ← hH5, ← hH4, ← hH3]
    exact Heap.get?_push_of_some _ (Heap.get?_push_of_some _ (Heap.get?_push_size H2 rfl))
  have eC : H5.get? (h₁.objs.size + 1 + 1) = some { cls := .type "dict", data := .dict #[] } := by
    rw [← sz2, ← hH5, ← hH4]
    exact Heap.get?_push_of_some _ (Heap.get?_push_size H3 rfl)
  have eX : H5.get? (h₁.objs.size + 1 + 1 + 1) = some { cls := .type "cell", data := .cell none } := by
    rw [← sz3, ← hH5]
    exact Heap.get?_push_size H4 rfl
  have hlt : ∀ p ∈ rest0, p.1 < h₁.objs.size := fun p hp => Heap.lt_size (N₁ p hp).1
  have hCns : ({ cls := .type "dict", data := .dict #[] } : Obj).data = .dict #[] 0 := rfl
  rw [sz1, sz2]
  clear sz1 sz2 sz3
  generalize h₁.objs.size = I at *
  generalize hoC : ({ cls := .type "dict", data := .dict #[] } : Obj) = oC at eC hCns
  have hI0 := fresh₀ I (Nat.le_refl _)
  have hD0 := fresh₀ (I + 1) (Nat.le_add_right _ _)
  have hC0 := fresh₀ (I + 1 + 1) (Nat.le_add_right I 2)
  have hX0 := fresh₀ (I + 1 + 1 + 1) (Nat.le_add_right I 3)
  have nIL : I ≠ env.locals := Nat.ne_of_gt hLlt
  have nDL : I + 1 ≠ env.locals := Nat.ne_of_gt (Nat.lt_add_right 1 hLlt)
  have nCL : I + 1 + 1 ≠ env.locals := Nat.ne_of_gt (Nat.lt_add_right 2 hLlt)
  have nXL : I + 1 + 1 + 1 ≠ env.locals := Nat.ne_of_gt (Nat.lt_add_right 3 hLlt)
  have W := Walks.range (prog := prog) (w := w) hh I a 1 n
  suffices loop : codeAny (model prog w) A (.compLoop (.ListComp elt [⟨.Name x px, iter, [], 0⟩] scope pos) 0 (.ref I) (.ref (I + 1)) (compEnvC scope ((x, I + 1 + 1 + 1) :: cl) (I + 1 + 1) env))
      (compPost (model prog w) A E (some (assign (.Name y py) env)) (fun _ s' => Q .next s') (.ref (I + 1)) (I + 1 + 1)) { s with heap := H5, toks := tk₁ } from
    codeAny_compStart_list loop (W.self 0 _ _ _ eI loop)
  refine codeAny_compLoop_tests (fun k s' => ∃ i ys rest oX v h tk, s' = { s with heap := h, toks := tk } ∧ i ≤ n ∧ k = n + 1 - i ∧ ys.length = i ∧ IsRangeIter h I (a + (i : Nat) * 1) ((n : Int) - (i : Nat)) 1 ∧ oX.data = .cell v ∧ Fr h₀ env.locals h m ∧
      News h₀ env.locals h ((I + 1 + 1, oC) :: (I + 1 + 1 + 1, oX) :: (I + 1, LCg.lst ys) :: rest) ∧ (∀ p ∈ rest, p.1 ≠ I ∧ p.1 ≠ I + 1 + 1 ∧ p.1 ≠ I + 1 + 1 + 1 ∧ p.1 ≠ I + 1) ∧ J i ys rest) ?_ (n + 1)
    ⟨0, [], rest0, { cls := .type "cell", data := .cell none }, none, H5, tk₁, rfl, Nat.zero_le _, rfl, rfl, eI, rfl, F₁.keeps up, ?_, fun p hp => ?_, hJ⟩
  · rintro k s' ⟨i, ys, rest, oX, v0, hh0, tk, rfl, hi, rfl, hyl, st, hX, F, N, off, hj⟩
    by_cases hlt2 : i < n
    · refine W.item i _ _ _ hlt2 st fun v h₂ tk₂ hPv hst₂ hk₂ => ?_
      obtain ⟨t2, rfl⟩ := hPv
      have nDI : I + 1 ≠ I := Nat.succ_ne_self I
      have nCI : I + 1 + 1 ≠ I := fun e => absurd e (by omega)
      have nXI : I + 1 + 1 + 1 ≠ I := fun e => absurd e (by omega)
      have nXC : I + 1 + 1 ≠ I + 1 + 1 + 1 := fun e => absurd e (by omega)
      have nXD : I + 1 ≠ I + 1 + 1 + 1 := fun e => absurd e (by omega)
      have nCD : I + 1 + 1 ≠ I + 1 := fun e => absurd e (by omega)
      have k2 : ∀ b o, b ≠ I → hh0.get? b = some o → h₂.get? b = some o := fun b o e g => hk₂ b o (fun q => e (List.mem_singleton.mp q)) g
      have F₂ : Fr h₀ env.locals h₂ m := ⟨F.ns.at' fun o e => k2 _ o (Ne.symm nIL) e, fun b o e => k2 b o (fun q => by rw [q, hI0] at e; cases e) (F.keep b o e), F.above⟩
      have N₂ : News h₀ env.locals h₂ ((I + 1 + 1, oC) :: (I + 1 + 1 + 1, oX) :: (I + 1, LCg.lst ys) :: rest) := fun p hp => ⟨k2 _ _ (by
        rcases List.mem_cons.mp hp with rfl | hp
        · exact nCI
        · rcases List.mem_cons.mp hp with rfl | hp
          · exact nXI
          · rcases List.mem_cons.mp hp with rfl | hp
            · exact nDI
            · exact (off p hp).1) (N p hp).1, (N p hp).2⟩
      have zX := N₂ (I + 1 + 1 + 1, oX) (.tail _ (.head _))
      refine wpAny_assign_Name (wpAny_storeName_cell (c := I + 1 + 1 + 1) (v₀ := v0) (by show scope.kind = _; exact hkind) (hx (I + 1 + 1)) (by show List.lookup x ((x, I + 1 + 1 + 1) :: cl) = _; simp [List.lookup]) ⟨oX, zX.1, hX⟩ fun h₃ hv₃ hs₃ => ?_)
      obtain ⟨oX', eX', dX'⟩ := hv₃
      have hL₀ : h₀.get? env.locals = none := Heap.get?_none_of_le F.above
      have F₃ : Fr h₀ env.locals h₃ m := F₂.change hs₃ nXL hX0
      have st₃ : IsRangeIter h₃ I _ _ 1 := hs₃.extBut _ _ (Ne.symm nXI) hst₂
      have N₃ : News h₀ env.locals h₃ ((I, { cls := .type "range_iterator", data := .fields #[rawInt (a + ((i + 1 : Nat) : Int) * 1), rawInt ((n : Int) - ((i + 1 : Nat) : Int)), rawInt 1] }) :: (I + 1 + 1, oC) :: (I + 1 + 1 + 1, oX') :: (I + 1, LCg.lst ys) :: rest) := fun p hp => by
        rcases List.mem_cons.mp hp with rfl | hp
        · exact ⟨st₃, nIL, hI0⟩
        · rcases List.mem_cons.mp hp with rfl | hp
          · have z := N₂ (I + 1 + 1, oC) (.head _)
            exact ⟨hs₃.extBut _ _ nXC z.1, z.2⟩
          · rcases List.mem_cons.mp hp with rfl | hp
            · exact ⟨eX', nXL, hX0⟩
            · rcases List.mem_cons.mp hp with rfl | hp
              · have z := N₂ (I + 1, LCg.lst ys) (.tail _ (.tail _ (.head _)))
                exact ⟨hs₃.extBut _ _ nXD z.1, z.2⟩
              · have z := N₂ p (.tail _ (.tail _ (.tail _ hp)))
                exact ⟨hs₃.extBut _ _ (off p hp).2.2.1 z.1, z.2⟩
      refine wpAny_tests_nil ?_
      simp only [if_true]
      refine NE (wpAny_mono (turn i _ t2 ys rest I _ (I + 1 + 1) oC (I + 1 + 1 + 1) oX' (I + 1) { s with heap := hh0, toks := tk } h₃ _ hlt2 (by omega) hyl hj dX' hlt ⟨Nat.lt_succ_self _, Nat.lt_succ_self _, rfl⟩ off F₃ N₃) (fun y' s₄ q => ?_) fun _ _ x => x)
      obtain ⟨rest', h₄, tk₄, rfl, F₄, N₄, off₄, hj₄⟩ := q
      have zI := N₄ _ (List.mem_append_left _ (.head _))
      have zC := N₄ (I + 1 + 1, oC) (List.mem_append_left _ (.tail _ (.head _)))
      have zX4 := N₄ (I + 1 + 1 + 1, oX') (List.mem_append_left _ (.tail _ (.tail _ (.head _))))
      have zD := N₄ (I + 1, LCg.lst ys) (List.mem_append_left _ (.tail _ (.tail _ (.tail _ (.head _)))))
      refine append_at (hsz := by show ys.toArray.size ≤ sizeLine; rw [List.size_toArray, hyl]; exact Nat.le_trans hi hsz) zD.1 fun h₅ hs₅ hD₅ => ?_
      refine ⟨n + 1 - (i + 1), by omega, i + 1, ys ++ [y'], rest', oX', _, h₅, tk₄, rfl, hlt2, rfl, by rw [List.length_append, List.length_singleton, hyl], hs₅.extBut _ _ (Ne.symm nDI) zI.1, dX', F₄.change hs₅ nDL hD0, fun p hp => ?_, off₄, hj₄⟩
      rcases List.mem_cons.mp hp with rfl | hp
      · exact ⟨hs₅.extBut _ _ nCD zC.1, zC.2⟩
      · rcases List.mem_cons.mp hp with rfl | hp
        · exact ⟨hs₅.extBut _ _ (Ne.symm nXD) zX4.1, zX4.2⟩
        · rcases List.mem_cons.mp hp with rfl | hp
          · exact ⟨hD₅.trans (congrArg some (LCg.lst_snoc ys y')), nDL, hD0⟩
          · have z := N₄ p (List.mem_append_right _ hp)
            exact ⟨hs₅.extBut _ _ (off₄ p hp).2.2.2 z.1, z.2⟩
    · obtain rfl : i = n := Nat.le_antisymm hi (Nat.not_lt.mp hlt2)
      refine W.done _ _ _ st fun h₂ tk₂ hk₂ => ?_
      have k2 : ∀ b o, b ≠ I → hh0.get? b = some o → h₂.get? b = some o := fun b o e g => hk₂ b o (fun q => e (List.mem_singleton.mp q)) g
      have F₂ : Fr h₀ env.locals h₂ m := ⟨F.ns.at' fun o e => k2 _ o (Ne.symm nIL) e, fun b o e => k2 b o (fun q => by rw [q, hI0] at e; cases e) (F.keep b o e), F.above⟩
      have nCI : I + 1 + 1 ≠ I := fun e => absurd e (by omega)
      have nDC : I + 1 ≠ I + 1 + 1 := fun e => absurd e (by omega)
      have zC := N (I + 1 + 1, oC) (.head _)
      have zD := N (I + 1, LCg.lst ys) (.tail _ (.tail _ (.head _)))
      show wpAny _ A (assign (.Name y py) env (.ref (I + 1))) _ _ _
      refine wpAny_assign_Name (wpAny_storeName_local hy F₂.ns (fun h₃ hn₃ hs₃ => ?_) hp)
      have F₃ := F₂.set hn₃ hs₃
      have eC3 : h₃.get? (I + 1 + 1) = some oC := hs₃.extBut _ _ nCL (k2 _ _ nCI zC.1)
      have hns : h₃.Ns (I + 1 + 1) (fun _ => none) := ⟨oC, #[], 0, eC3, hCns, by intro e he; simp at he, fun _ => rfl⟩
      refine ⟨_, hns, fun h'' hs'' => done (I + 1) ys rest h'' _ hyl hj (F₃.change hs'' nCL hC0) (fun q hq => ?_) fun q hq => (off q hq).2.2.2⟩
      rcases List.mem_cons.mp hq with rfl | hq
      · exact ⟨hs''.extBut _ _ nDC (hs₃.extBut _ _ nDL (k2 _ _ (Nat.succ_ne_self I) zD.1)), zD.2⟩
      · have z := N q (.tail _ (.tail _ (.tail _ hq)))
        exact ⟨hs''.extBut _ _ (off q hq).2.1 (hs₃.extBut _ _ z.2.1 (k2 _ _ (off q hq).1 z.1)), z.2⟩
  · intro q hq
    rcases List.mem_cons.mp hq with rfl | hq
    · exact ⟨eC, nCL, hC0⟩
    · rcases List.mem_cons.mp hq with rfl | hq
      · exact ⟨eX, nXL, hX0⟩
      · rcases List.mem_cons.mp hq with rfl | hq
        · exact ⟨eD, nDL, hD0⟩
        · exact ⟨up _ _ (N₁ q hq).1, (N₁ q hq).2⟩
  · have := hlt p hp
    exact ⟨Nat.ne_of_lt this, Nat.ne_of_lt (Nat.lt_add_right 2 this), Nat.ne_of_lt (Nat.lt_add_right 3 this), Nat.ne_of_lt (Nat.lt_add_right 1 this)⟩
end
end Mine

-- MRows
namespace Mine
open PySem PySem.W PySem.Calls PyProof.Rows PySem.Spec
set_option maxRecDepth 100000
/-- the rows of a list of lists, as ledger -/
def rowsL (rs : List (Addr × List Value)) : List (Addr × Obj) := rs.map fun r => (r.1, LCg.lst r.2)
def refs (rs : List (Addr × List Value)) : List Value := rs.map fun r => .ref r.1
structure RowsOk (rs : List (Addr × List Value)) (base : List (Addr × Obj)) : Prop where
  nd : (rs.map (·.1)).Nodup
  off : ∀ r ∈ rs, ∀ p ∈ base, p.1 ≠ r.1
/-- p rows of q ints each: f says which -/
def RowsFn (rs : List (Addr × List Value)) (p q : Nat) (f : Nat → Nat → Int) : Prop :=
  rs.length = p ∧ ∀ i, i < p → ∃ r, rs[i]? = some r ∧ r.2.length = q ∧ ∀ j, j < q → ∃ t, r.2[j]? = some (.int (f i j) t)
theorem refs_at {rs : List (Addr × List Value)} {i : Nat} {r : Addr × List Value} (h : rs[i]? = some r) : (refs rs)[i]? = some (.ref r.1) := by
  unfold refs; rw [List.getElem?_map, h]; rfl
theorem row_mem {rs : List (Addr × List Value)} {i : Nat} {r : Addr × List Value} (h : rs[i]? = some r) : (r.1, LCg.lst r.2) ∈ rowsL rs :=
  List.mem_map.mpr ⟨r, List.mem_of_getElem? h, rfl⟩
theorem rowsL_off {rs : List (Addr × List Value)} {b : Addr} (h : ∀ r ∈ rs, r.1 ≠ b) : ∀ p ∈ rowsL rs, p.1 ≠ b := fun p hp => by
  obtain ⟨r, hr, rfl⟩ := List.mem_map.mp hp
  exact h r hr
theorem rowsL_off' {rs : List (Addr × List Value)} {b : Addr} (h : ∀ p ∈ rowsL rs, p.1 ≠ b) : ∀ r ∈ rs, r.1 ≠ b := fun r hr => h (r.1, LCg.lst r.2) (List.mem_map.mpr ⟨r, hr, rfl⟩)
theorem map_fst_set (rs : List (Addr × List Value)) (i : Nat) (r : Addr × List Value) (h : rs[i]? = some r) (ys : List Value) : (rs.set i (r.1, ys)).map (·.1) = rs.map (·.1) := by
  rw [List.map_set]
  refine List.ext_getElem? fun j => ?_
  rw [List.getElem?_set]
  split
  · rename_i e
    subst e
    split
    · rename_i hl
      rw [List.getElem?_map, h]; rfl
    · rename_i hl
      rw [List.length_map] at hl
      rw [List.getElem?_map, h]
      exact absurd (List.getElem?_eq_some_iff.mp h).1 hl
  · rfl
theorem RowsOk.set {rs : List (Addr × List Value)} {base : List (Addr × Obj)} (h : RowsOk rs base) {i : Nat} {r : Addr × List Value} (hr : rs[i]? = some r) (ys : List Value) : RowsOk (rs.set i (r.1, ys)) base := by
  refine ⟨by rw [map_fst_set rs i r hr ys]; exact h.nd, fun r' hr' p hp => ?_⟩
  have h1 : r'.1 ∈ (rs.set i (r.1, ys)).map (·.1) := List.mem_map.mpr ⟨r', hr', rfl⟩
  rw [map_fst_set rs i r hr ys] at h1
  obtain ⟨q, hq, e⟩ := List.mem_map.mp h1
  rw [← e]; exact h.off q hq p hp
theorem refs_set {rs : List (Addr × List Value)} {i : Nat} {r : Addr × List Value} (hr : rs[i]? = some r) (ys : List Value) : refs (rs.set i (r.1, ys)) = refs rs := by
  have h := map_fst_set rs i r hr ys
  unfold refs
  have e : ∀ l : List (Addr × List Value), (l.map fun r => Value.ref r.1) = (l.map (·.1)).map Value.ref := fun l => by rw [List.map_map]; rfl
  rw [e, e, h]
theorem RowsFn.set {rs : List (Addr × List Value)} {p q : Nat} {f : Nat → Nat → Int} (h : RowsFn rs p q f) {i j : Nat} {r : Addr × List Value} (hr : rs[i]? = some r) (hj : j < q) (n : Int) (t : Tok) :
    RowsFn (rs.set i (r.1, r.2.set j (.int n t))) p q (fun a b => if a = i ∧ b = j then n else f a b) := by
  refine ⟨by rw [List.length_set]; exact h.1, fun a ha => ?_⟩
  obtain ⟨ra, hra, hlen, hv⟩ := h.2 a ha
  by_cases e : i = a
  · subst e
    obtain rfl : r = ra := Option.some.inj (hr.symm.trans hra)
    refine ⟨(r.1, r.2.set j (.int n t)), ?_, by rw [List.length_set]; exact hlen, fun b hb => ?_⟩
    · rw [List.getElem?_set_self (by rw [h.1]; exact ha)]
    · by_cases e2 : j = b
      · subst e2
        exact ⟨t, by rw [List.getElem?_set_self (by rw [hlen]; exact hb)]; simp⟩
      · obtain ⟨t', ht'⟩ := hv b hb
        refine ⟨t', ?_⟩
        rw [List.getElem?_set_ne e2, ht']
        show _ = some (Value.int (if i = i ∧ b = j then n else f i b) t')
        rw [if_neg (fun x => e2 x.2.symm)]
  · refine ⟨ra, ?_, hlen, fun b hb => ?_⟩
    · rw [List.getElem?_set_ne e, hra]
    · obtain ⟨t', ht'⟩ := hv b hb
      refine ⟨t', ?_⟩
      rw [ht']
      show _ = some (Value.int (if a = i ∧ b = j then n else f a b) t')
      rw [if_neg (fun x => e x.1.symm)]
theorem RowsFn.snoc {rs : List (Addr × List Value)} {p q : Nat} {f : Nat → Nat → Int} (h : RowsFn rs p q f) {a : Addr} {ys : List Value} (hl : ys.length = q) (hv : ∀ j, j < q → ∃ t, ys[j]? = some (.int (f p j) t)) : RowsFn (rs ++ [(a, ys)]) (p + 1) q f := by
  refine ⟨by rw [List.length_append, h.1]; rfl, fun i hi => ?_⟩
  by_cases e : i < p
  · obtain ⟨r, hr, z⟩ := h.2 i e
    exact ⟨r, by rw [List.getElem?_append_left (by rw [h.1]; exact e)]; exact hr, z⟩
  · obtain rfl : i = p := by omega
    refine ⟨(a, ys), ?_, hl, hv⟩
    rw [List.getElem?_append_right (by rw [h.1]; exact Nat.le_refl _), h.1, Nat.sub_self]; rfl
theorem RowsFn.nil {q : Nat} {f : Nat → Nat → Int} : RowsFn [] 0 q f := ⟨rfl, fun _ h => absurd h (Nat.not_lt_zero _)⟩
theorem RowsFn.congr {rs : List (Addr × List Value)} {p q : Nat} {f g : Nat → Nat → Int} (h : RowsFn rs p q f) (e : ∀ i j, i < p → j < q → f i j = g i j) : RowsFn rs p q g := by
  refine ⟨h.1, fun i hi => ?_⟩
  obtain ⟨r, hr, hl, hv⟩ := h.2 i hi
  refine ⟨r, hr, hl, fun j hj => ?_⟩
  obtain ⟨t, ht⟩ := hv j hj
  exact ⟨t, by rw [ht, e i j hi hj]⟩
theorem rowsL_snoc (rs : List (Addr × List Value)) (a : Addr) (ys : List Value) : rowsL (rs ++ [(a, ys)]) = rowsL rs ++ [(a, LCg.lst ys)] := by unfold rowsL; rw [List.map_append]; rfl
theorem refs_snoc (rs : List (Addr × List Value)) (a : Addr) (ys : List Value) : refs (rs ++ [(a, ys)]) = refs rs ++ [.ref a] := by unfold refs; rw [List.map_append]; rfl
theorem RowsOk.snoc {rs : List (Addr × List Value)} {base : List (Addr × Obj)} (h : RowsOk rs base) {a : Addr} {ys : List Value} (h1 : ∀ r ∈ rs, r.1 ≠ a) (h2 : ∀ p ∈ base, p.1 ≠ a) : RowsOk (rs ++ [(a, ys)]) base := by
  refine ⟨?_, fun r hr => ?_⟩
  · rw [List.map_append, List.nodup_append]
    refine ⟨h.nd, by simp, fun x hx y hy => ?_⟩
    obtain ⟨r, hr, rfl⟩ := List.mem_map.mp hx
    have : y = a := by simpa using hy
    rw [this]; exact h1 r hr
  · rcases List.mem_append.mp hr with hr | hr
    · exact h.off r hr
    · have : r = (a, ys) := by simpa using hr
      rw [this]; exact h2

/-- a ledger that bears the rows -/
inductive SegR (rs : List (Addr × List Value)) : List (Addr × Obj) → (List (Addr × Obj) → List (Addr × Obj)) → Prop
  | here {post : List (Addr × Obj)} : (∀ r ∈ rs, ∀ p ∈ post, p.1 ≠ r.1) → SegR rs (rowsL rs ++ post) (fun t => t ++ post)
  | there {p : Addr × Obj} {led : List (Addr × Obj)} {g : List (Addr × Obj) → List (Addr × Obj)} : (∀ r ∈ rs, p.1 ≠ r.1) → SegR rs led g → SegR rs (p :: led) (fun t => p :: g t)
theorem SegR.split {rs : List (Addr × List Value)} {led : List (Addr × Obj)} {g : List (Addr × Obj) → List (Addr × Obj)} (S : SegR rs led g) :
    ∃ own post, led = own ++ (rowsL rs ++ post) ∧ (∀ t, g t = own ++ (t ++ post)) ∧ (∀ r ∈ rs, ∀ p ∈ own, p.1 ≠ r.1) ∧ (∀ r ∈ rs, ∀ p ∈ post, p.1 ≠ r.1) := by
  induction S with
  | here h => exact ⟨[], _, rfl, (fun _ => rfl), (fun _ _ _ hp => (nomatch hp)), h⟩
  | there hp _ ih =>
    obtain ⟨own, rest, rfl, hg, h1, h2⟩ := ih
    refine ⟨_ :: own, rest, rfl, (fun t => by show _ :: _ = _; rw [hg]; rfl), fun r hr q hq => ?_, h2⟩
    rcases List.mem_cons.mp hq with rfl | hq
    · exact hp r hr
    · exact h1 r hr q hq
theorem nodup_split {rs : List (Addr × List Value)} {i : Nat} {r : Addr × List Value} (hn : (rs.map (·.1)).Nodup) (hr : rs[i]? = some r) :
    (∀ q ∈ rs.take i, q.1 ≠ r.1) ∧ (∀ q ∈ rs.drop (i + 1), q.1 ≠ r.1) ∧ rs = rs.take i ++ r :: rs.drop (i + 1) := by
  have hl : i < rs.length := (List.getElem?_eq_some_iff.mp hr).1
  have e : rs = rs.take i ++ r :: rs.drop (i + 1) := by
    have h1 : rs.drop i = r :: rs.drop (i + 1) := by
      rw [List.drop_eq_getElem_cons hl]
      congr 1
      exact (List.getElem?_eq_some_iff.mp hr).2
    rw [← h1, List.take_append_drop]
  rw [e, List.map_append, List.map_cons, List.nodup_append] at hn
  obtain ⟨_, h2, h3⟩ := hn
  refine ⟨fun q hq => ?_, fun q hq x => ?_, e⟩
  · exact h3 q.1 (List.mem_map.mpr ⟨q, hq, rfl⟩) r.1 (by simp)
  · exact (List.nodup_cons.mp h2).1 (List.mem_map.mpr ⟨q, hq, x⟩)
section
variable {prog : Program} {w : World} {A : Around} {E : Value → Shared → Prop} {s : Shared} {h₀ : Heap} {L : Addr} {m : Str → Option Value} {led : List (Addr × Obj)} {g : List (Addr × Obj) → List (Addr × Obj)} {rs : List (Addr × List Value)}
/-- `row[k] = v` -/
theorem setRow_N {i : Nat} {r : Addr × List Value} {k : Int} {u : Tok} {v : Value} {Q : Unit → Shared → Prop} (F : Fr h₀ L s.heap m) (N : News h₀ L s.heap led) (S : SegR rs led g) (nd : (rs.map (·.1)).Nodup) (hr : rs[i]? = some r) (h0 : 0 ≤ k) (h1 : k < r.2.length) (hsz : r.2.length ≤ sizeLine)
    (h : ∀ h', Fr h₀ L h' m → News h₀ L h' (g (rowsL (rs.set i (r.1, r.2.set k.toNat v)))) → Q () { s with heap := h' }) : wpAny (model prog w) A (setItem (.ref r.1) (.int k u) v) Q E s := by
  obtain ⟨own, post, rfl, hg, h2, h3⟩ := S.split
  obtain ⟨n1, n2, e⟩ := nodup_split nd hr
  have hmem := List.mem_of_getElem? hr
  have eL : rowsL rs = rowsL (rs.take i) ++ (r.1, LCg.lst r.2) :: rowsL (rs.drop (i + 1)) := by
    conv => lhs; rw [e]
    unfold rowsL; rw [List.map_append]; rfl
  have hl : i < rs.length := (List.getElem?_eq_some_iff.mp hr).1
  have eS : ∀ ys, rowsL (rs.set i (r.1, ys)) = rowsL (rs.take i) ++ (r.1, LCg.lst ys) :: rowsL (rs.drop (i + 1)) := fun ys => by
    rw [List.set_eq_take_append_cons_drop, if_pos hl]
    unfold rowsL; rw [List.map_append]; rfl
  have U : UpdF r.1 (LCg.lst r.2) (own ++ (rowsL rs ++ post)) (fun o' => (own ++ rowsL (rs.take i)) ++ (r.1, o') :: (rowsL (rs.drop (i + 1)) ++ post)) := by
    rw [eL, show own ++ (rowsL (rs.take i) ++ (r.1, LCg.lst r.2) :: rowsL (rs.drop (i + 1)) ++ post) = (own ++ rowsL (rs.take i)) ++ (r.1, LCg.lst r.2) :: (rowsL (rs.drop (i + 1)) ++ post) by simp]
    refine updF_at (fun p hp => ?_) _ fun p hp => ?_
    · rcases List.mem_append.mp hp with hp | hp
      · exact rowsL_off n2 p hp
      · exact h3 r hmem p hp
    · rcases List.mem_append.mp hp with hp | hp
      · exact h2 r hmem p hp
      · exact rowsL_off n1 p hp
  refine setItem_N F N U h0 h1 hsz fun h' F' N' => h h' F' ?_
  rw [hg, eS]
  simpa using N'
end
abbrev ledgerOf {h₀ : Heap} {L : Addr} {h : Heap} {led : List (Addr × Obj)} (_ : News h₀ L h led) : List (Addr × Obj) := led
theorem off_snoc {rs : List (Addr × List Value)} {base : List (Addr × Obj)} {P : Addr → Prop} {a : Addr} {ys : List Value} (h : ∀ p ∈ rowsL rs ++ base, P p.1) (ha : P a) : ∀ p ∈ rowsL (rs ++ [(a, ys)]) ++ base, P p.1 := fun p hp => by
  rw [rowsL_snoc, List.append_assoc] at hp
  rcases List.mem_append.mp hp with hp | hp
  · exact h p (List.mem_append_left _ hp)
  · rcases List.mem_append.mp hp with hp | hp
    · have : p = (a, LCg.lst ys) := by simpa using hp
      rw [this]; exact ha
    · exact h p (List.mem_append_right _ hp)
theorem ints_range {ys : List Value} {q : Nat} {f : Nat → Int} (h : IntsAre ys ((List.range q).map f)) : ∀ j, j < q → ∃ t, ys[j]? = some (.int (f j) t) := fun j hj => h.get j (f j) (by simp [hj])
theorem ints_snoc {ys : List Value} {j : Nat} {f : Nat → Int} {n : Int} {t : Tok} (h : IntsAre ys ((List.range j).map f)) (e : f j = n) : IntsAre (ys ++ [.int n t]) ((List.range (j + 1)).map f) := by
  rw [List.range_succ, List.map_append]
  subst e
  exact IntsAre.append h (.cons _ t .nil)
theorem ne_set {rs : List (Addr × List Value)} {i : Nat} {r : Addr × List Value} (hr : rs[i]? = some r) {b : Addr} (h : ∀ q ∈ rs, @Ne Nat b q.1) (ys : List Value) : ∀ q ∈ rs.set i (r.1, ys), @Ne Nat b q.1 := fun q hq => by
  have h1 : q.1 ∈ (rs.set i (r.1, ys)).map (·.1) := List.mem_map.mpr ⟨q, hq, rfl⟩
  rw [map_fst_set rs i r hr ys] at h1
  obtain ⟨q', hq', e⟩ := List.mem_map.mp h1
  rw [← e]; exact h q' hq'
end Mine

-- MLeast
namespace Mine
open PySem PySem.W PySem.Calls PyProof.Rows
local macro_rules | `(tactic| walk_at "mine enter") => `(tactic| (refine' code_def ?k1 ?k2 ?k3 ?k4 ?k5 ?kA ?kF ?kK ?k6 ?k7 ?k8 ?k9 ?kB ?_ ?c2 ?c3 ?c4 ?c5; (case kA => exact rfl); (case kF => exact rfl); (case kK => assumption); (case k1 => k_asm); (case k2 => k_asm); (case k3 => k_asm); (case k4 => k_asm); (case k5 => k_asm); (case k6 => k_is); (case k7 => k_is); (case k8 => ktr_room); (case k9 => first | exact BindsTo.of_eq rfl | exact binds_K (by k_in) rfl (by k_is) rfl rfl rfl); (case c5 => decide); (case kB => exact locs rfl); (case c2 => exact rfl); (case c3 => exact rfl); (case c4 => exact rfl); k_whole; intro g' L' h' FG' F' N' B' X' T'; (try dsimp only); (try k_lift B'); (try k_fold)))
local macro_rules | `(tactic| walk_at "mine enterC") => `(tactic| (refine' code_defC ?k1 ?k2 ?k3 ?k4 ?k5 ?kA ?kF ?kK ?k6 ?k7 ?k8 ?k9 ?kB ?kD ?_ ?c2 ?c3 ?c4; (case kA => exact rfl); (case kF => exact rfl); (case kK => assumption); (case k1 => k_asm); (case k2 => k_asm); (case k3 => k_asm); (case k4 => k_asm); (case k5 => k_asm); (case k6 => k_is); (case k7 => k_is); (case k8 => ktr_room); (case k9 => exact BindsTo.of_eq rfl); (case kB => exact rfl); (case kD => decide +kernel); (case c2 => exact rfl); (case c3 => exact rfl); (case c4 => exact rfl); k_whole; intro g' L' h' tk' cells' FG' F' N' Y' B' X' T' l1; (try k_lt l1); k_cells Y'; (try simp only [List.cons_append, List.nil_append] at N'); (try dsimp only); (try k_lift B'); (try k_fold)))
local macro_rules | `(tactic| walk_at "mine enterR") => `(tactic| (refine' kp_rest ?k1 ?k2 ?k3 ?k4 ?k5 ?kA ?kF ?kK ?k6 ?k7 ?k8 ?kV ?kP ?kG ?kB ?_ ?c2 ?c3 ?c4 ?c5; (case kA => exact rfl); (case kF => exact rfl); (case kK => assumption); (case k1 => k_asm); (case k2 => k_asm); (case k3 => k_asm); (case k4 => k_asm); (case k5 => k_asm); (case k6 => k_is); (case k7 => k_is); (case k8 => ktr_room); (case kV => kl_lit); (case kP => exact rfl); (case kG => exact fun _ => rfl); (case kB => exact fun _ => locs rfl); (case c5 => decide); (case c2 => exact rfl); (case c3 => exact rfl); (case c4 => exact rfl); k_whole; intro D' g' L' h' l1 FG' F' N' B' X' T'; (try k_lt l1); (try dsimp only); (try k_lift B'); (try k_fold)))
local macro_rules | `(tactic| walk_at "mine enterRC") => `(tactic| (refine' rest_cells ?k1 ?k2 ?k3 ?k4 ?k5 ?kA ?kF ?kK ?k6 ?k7 ?k8 ?kV ?kP ?kG ?kB ?kD ?_ ?c2 ?c3 ?c4; (case kA => exact rfl); (case kF => exact rfl); (case kK => assumption); (case k1 => k_asm); (case k2 => k_asm); (case k3 => k_asm); (case k4 => k_asm); (case k5 => k_asm); (case k6 => k_is); (case k7 => k_is); (case k8 => ktr_room); (case kV => kl_lit); (case kP => exact rfl); (case kG => exact fun _ => rfl); (case kB => exact fun _ => rfl); (case kD => decide +kernel); (case c2 => exact rfl); (case c3 => exact rfl); (case c4 => exact rfl); k_whole; intro D' g' L' h' tk' cells' l0 lD FG' F' N' Y' B' X' T' l1; (try k_lt l0); (try k_lt l1); k_cells Y'; (try simp only [List.cons_append, List.nil_append] at N'); (try dsimp only); (try k_lift B'); (try k_fold)))

local macro_rules | `(tactic| k_all) => `(tactic| assumption)
local macro_rules | `(tactic| k_room) => `(tactic| ktr_room)
local macro_rules | `(tactic| k_mem) => `(tactic| exact List.mem_append.mpr (.inl (by assumption)))
local macro_rules | `(tactic| walk_at "mine seg") => `(tactic| (first | (refine' SegF.here ?sgC; (case sgC => assumption)) | (refine' SegF.there ?sgA ?sgB; (case sgA => k_ne); (case sgB => walk_at "mine seg"))))
local macro_rules | `(tactic| walk_at "eval Lambda") => `(tactic| (k_here; k_dflt (refine' lam_evalT ?F ?N ?T ?C ?S ?hT ?hN ?hd ?hcl ?_; (case F => k_asm); (case N => k_asm); (case T => k_asm); (case C => kn_code); (case S => walk_at "mine seg"); (case hT => assumption); (case hN => kcj_all); (case hd => exact rfl); (case hcl => exact rfl); k_whole); intro f' c' oc' vs' t' ct' tabs' h' tk' F' N' hT' hm' d1' d2' l1 lt'; (try dsimp only at N'); (try k_lt l1)))
local macro_rules | `(tactic| walk_at "call type:map") => `(tactic| (k_here; (with_reducible show wpAny _ _ (call (Value.type "map") [_, Value.ref _]) _ _ _); k_dflt (refine' call_map_N ?k1 ?k2 ?k3 ?_; (case k1 => k_asm); (case k2 => k_asm); (case k3 => k_mem); k_whole); intro I' h' F' N' l1; (try k_lt l1)))

local macro_rules | `(tactic| walk_at "mine spec") => `(tactic| first | (refine' pair_spec ?k1 ?k2 ?k3 ?k4 ?k5 ?kK ?kd ?ku  ?_; (case k1 => k_asm); (case k2 => k_asm); (case k3 => k_asm); (case k4 => k_asm); (case k5 => k_asm); (case kK => first | exact rfl | assumption); (case kd => ktr_room); (case ku => ktr_units);  k_whole; intro t' h' tk' F' N') | (refine' alone_spec ?k1 ?k2 ?k3 ?k4 ?k5 ?kK ?kd ?ku ?z1 ?z2 ?_; (case k1 => k_asm); (case k2 => k_asm); (case k3 => k_asm); (case k4 => k_asm); (case k5 => k_asm); (case kK => first | exact rfl | assumption); (case kd => ktr_room); (case ku => ktr_units); (case z1 => omega); (case z2 => omega); k_whole; intro D' ys' h' tk' hy' hD' F' N'; (try simp only [List.forall_mem_cons] at hD'); (try dsimp only at hD')))
local macro_rules | `(tactic| walk_at "call ref") => `(tactic| (k_here; k_dflt (first | (refine wpAny_call ?_; walk_at "mine spec") | (refine call_meth (by k_asm) (by k_mem) ?_; walk_at "mine spec")); (try dsimp only); (try k_fold)))

local macro_rules | `(tactic| kxi_size) => `(tactic| (rw [PySem.sizeLine_eq]; omega))
local macro_rules | `(tactic| walk_at "subscriptTail") => `(tactic| (k_here; (with_reducible show wpAny _ _ (subscriptTail _ _ (Value.str _ _) (Value.int _ _)) _ _ _); (refine KXi.item (Eq.refl _) (by omega) (by omega) (by omega) ?_); intro kxiE))
local macro_rules | `(tactic| walk_at "subscriptTail") => `(tactic| (k_here; (with_reducible show wpAny _ _ (subscriptTail _ (Expr.Slice _ _ _ _) (Value.str _ _) (Value.ref _)) _ _ _); kxi_slice; intro _ _ _ _ _))
local macro_rules | `(tactic| walk_at "mine cend") => `(tactic| (refine' compEnd_inv ?ceF ?ceN ?ceS ?ceO ?ceH ?_; (case ceF => k_asm); (case ceN => assumption); (case ceS => kcf_all); (case ceO => (first | assumption | (simp only [LCg.Off3, and_true]; assumption) | (simp only [LCg.Off3]; done))); (case ceH => (first | exact True.intro | lcg_src | assumption))))
local macro_rules | `(tactic| walk_at "mine range") => `(tactic| (refine' ⟨_, _, _, _, _, _, _, rfl, rfl, ?rgR, ?rgS, ?rgN, ?rgF, ?rgW⟩; (case rgR => assumption); (case rgS => exact small_one (by omega) (by omega) (by omega) (by omega)); (case rgN => first | (refine Eq.trans (rangeSize_nat _ _) ?_; omega)); (case rgF => k_asm); (case rgW => assumption)))

local macro_rules | `(tactic| walk_at "call builtin:list.append") => `(tactic| (k_here; k_dflt (refine' append_N ?k1 ?k2 ?k3 ?k4 ?_; (case k1 => k_asm); (case k2 => k_asm); (case k3 => k_updF); (case k4 => (rw [PySem.sizeLine_eq]; omega)); k_whole); intro h' F' N'; (try dsimp only at N')))

local macro_rules | `(tactic| walk_at "exec For Name Call cons nil") => `(tactic| (k_here; refine Stop.out ?_))
local macro_rules | `(tactic| walk_at "exec For Name Name cons nil") => `(tactic| (k_here; refine Stop.out ?_))
local macro_rules | `(tactic| walk_at "exec For Tuple Call cons nil") => `(tactic| (k_here; refine Stop.out ?_))

local macro_rules | `(tactic| walk_at "mine off") => `(tactic| (intro z9 h9 h8; (repeat' (first | exact rfl | (refine off_if h9 ?_) | (refine off_in h8 ?_) | (refine off_if (fun e9 => h8 (by rw [e9]; decide)) ?_)))))

local macro_rules | `(tactic| walk_at "mine ofs") => `(tactic| (repeat' (first | assumption | (refine List.forall_mem_cons.mpr ⟨?_, ?_⟩) | k_ne)))
local macro_rules | `(tactic| walk_at "mine led") => `(tactic| (first | assumption | (refine' cb_drop ?cbN ?cbS; (case cbN => assumption); (case cbS => kcj_all))))

local macro_rules | `(tactic| walk_at "exec Assign cons ListComp") => `(tactic| (k_here; refine Stop.out ?_))
local macro_rules | `(tactic| walk_at "eval ListComp") => `(tactic| (k_here; refine Stop.out ?_))
local macro_rules | `(tactic| walk_at "CompSrc") => `(tactic| (refine Stop.out ?_))
local macro_rules | `(tactic| walk_at "mine rng1") => `(tactic| (refine' LCg.CompSrc.range ?c1 ?c2 ?c3 ?c4 ?c5 ?c6 ?c7 ?_; (case c1 => exact rfl); (case c2 => k_asm); (case c3 => k_asm); (case c4 => assumption); (case c5 => exact small_one (by omega) (by omega) (by omega) (by omega)); (case c6 => exact rangeSize_nat _ _); (case c7 => (rw [PySem.sizeLine_eq]; omega))))

def sumFrom (l : List Int) (k : Nat) : Int := (l.drop k).sum
/-- the least price of an alignment of the last a letters with the last b letters -/
def bwr (A B : List Int) (P : Nat → Nat → Int) (n m : Nat) : Nat → Nat → Int
  | 0, b => sumFrom A n + sumFrom B (m - b)
  | a + 1, 0 => sumFrom A (n - (a + 1)) + sumFrom B m
  | a + 1, b + 1 => min (min (bwr A B P n m a b + P (n - (a + 1)) (m - (b + 1))) (bwr A B P n m a (b + 1) + A.getD (n - (a + 1)) 0)) (bwr A B P n m (a + 1) b + B.getD (m - (b + 1)) 0)
abbrev bwz (z1 z2 : Str) (lo hi : Int) : Nat → Nat → Int := bwr (alone z1 lo hi) (alone z2 lo hi) (fun i j => pp (Txt.item z1 (i : Int)) (Txt.item z2 (j : Int)) lo hi) z1.length z2.length
def leastV (z1 z2 : Str) (lo hi : Int) : Int := bwz z1 z2 lo hi z1.length z2.length
theorem bw_step {A B : List Int} {P : Nat → Nat → Int} {n m i j k l : Nat} {f : Nat → Nat → Int} {V : Int} (hi : i < n) (hj : j < m) (hk : k = n - 1 - i) (hl : l = m - 1 - j)
    (h : ∀ a b, a ≤ n → b ≤ m → (n - i ≤ a ∨ b = m ∨ (a = k ∧ m - j ≤ b)) → f a b = bwr A B P n m (n - a) (m - b))
    (hV : V = min (min (f (k + 1) (l + 1) + P k l) (f (k + 1) l + A.getD k 0)) (f k (l + 1) + B.getD l 0)) :
    ∀ a b, a ≤ n → b ≤ m → (n - i ≤ a ∨ b = m ∨ (a = k ∧ m - (j + 1) ≤ b)) → (if a = k ∧ b = l then V else f a b) = bwr A B P n m (n - a) (m - b) := by
  intro a b ha hb hc
  by_cases e : a = k ∧ b = l
  · rw [if_pos e, e.1, e.2, hV, h (k + 1) (l + 1) (by omega) (by omega) (by omega), h (k + 1) l (by omega) (by omega) (by omega), h k (l + 1) (by omega) (by omega) (by omega)]
    rw [show n - (k + 1) = i by omega, show m - (l + 1) = j by omega, show n - k = i + 1 by omega, show m - l = j + 1 by omega]
    simp only [bwr]
    rw [show n - (i + 1) = k by omega, show m - (j + 1) = l by omega]
  · rw [if_neg e]
    exact h a b ha hb (by omega)
theorem bw_init {A B : List Int} {P : Nat → Nat → Int} {n m : Nat} : ∀ a b, a ≤ n → b ≤ m → (n - 0 ≤ a ∨ b = m) → sumFrom A a + sumFrom B b = bwr A B P n m (n - a) (m - b) := by
  intro a b ha hb hc
  by_cases e : a = n
  · rw [e, Nat.sub_self]
    simp only [bwr]
    rw [show m - (m - b) = b by omega]
  · have hbm : b = m := by omega
    obtain ⟨c, hc⟩ : ∃ c, n - a = c + 1 := ⟨n - a - 1, by omega⟩
    rw [hbm, Nat.sub_self, hc]
    simp only [bwr]
    rw [show n - (c + 1) = a by omega]
theorem ints_at {ys : List Value} {ns : List Int} (h : IntsAre ys ns) (k : Nat) (hk : k < ns.length) : ∃ t, ys[k]? = some (.int (ns.getD k 0) t) := h.get k (ns.getD k 0) (by simp [hk])
theorem small_down {a : Int} (h0 : 0 ≤ a) (h1 : a < 2 ^ 40) : Builtin.Range.small a (-1) (-1) = true := by
  unfold Builtin.Range.small Builtin.Range.rangeSize
  simp only [Builtin.Range.rangeFitsLong, Bool.and_eq_true, Bool.or_eq_true, decide_eq_true_eq, beq_iff_eq, show ¬ ((-1 : Int) > 0) by decide, if_false]
  have e : (a - -1 - 1) / - -1 = a := by simp
  rw [if_pos (show a > -1 by omega), e]
  omega
theorem size_down {a : Int} (h0 : -1 ≤ a) : Builtin.Range.rangeSize a (-1) (-1) = ((a + 1).toNat : Int) := by
  unfold Builtin.Range.rangeSize
  rw [if_neg (by decide)]
  have e : (a - -1 - 1) / - -1 = a := by simp
  split
  · rw [e]; omega
  · omega

local macro_rules | `(tactic| walk_at "mine down") => `(tactic| (refine' ⟨_, _, _, _, _, _, _, rfl, rfl, ?rgR, ?rgS, ?rgN, ?rgF, ?rgW⟩; (case rgR => assumption); (case rgS => exact small_down (by omega) (by omega)); (case rgN => (refine Eq.trans (size_down (by omega)) ?_; omega)); (case rgF => k_asm); (case rgW => assumption)))
local macro_rules | `(tactic| walk_at "subscriptTail") => `(tactic| (k_here; (with_reducible show wpAny _ _ (subscriptTail _ _ (Value.ref _) (Value.int _ _)) _ _ _); k_dflt (refine' item_N ?i1 ?i2 ?i3 ?i4 ?i5 ?_; (case i1 => k_asm); (case i2 => k_mem); (case i3 => omega); (case i4 => omega); (case i5 => assumption); k_whole)))
local macro_rules | `(tactic| walk_at "mine segR") => `(tactic| (first | (refine' SegR.here ?sgC; (case sgC => assumption)) | (refine' SegR.there ?sgA ?sgB; (case sgA => assumption); (case sgB => walk_at "mine segR"))))
local macro_rules | `(tactic| walk_at "setItem ref int") => `(tactic| (k_here; k_dflt (refine' setRow_N ?s1 ?s2 ?s3 ?s4 ?s5 ?s6 ?s7 ?s8 ?_; (case s1 => k_asm); (case s2 => k_asm); (case s5 => assumption); (case s3 => walk_at "mine segR"); (case s4 => assumption); (case s6 => omega); (case s7 => omega); (case s8 => (rw [PySem.sizeLine_eq]; omega)); k_whole); intro h' F' N'; (try dsimp only at N')))

local macro_rules | `(tactic| k_mem) => `(tactic| kcf_m)

local macro_rules | `(tactic| walk_at "subscriptTail Name Slice ref ref") => `(tactic| (k_here; (with_reducible show wpAny _ _ (subscriptTail _ (PySem.Expr.Slice (some _) none none _) (Value.ref _) (Value.ref _)) _ _ _); k_dflt (refine' slice_from ?F ?N ?l ?i ?p ?z ?_ ?s ?t; (case F => k_asm); (case N => k_asm); (case l => k_mem); (case i => assumption); (case p => omega); (case z => (rw [PySem.sizeLine_eq]; omega)); (case s => with_unfolding_all rfl); (case t => kmk_pure)); intro D' ws' h' F' N' l1 hI'))
local macro_rules | `(tactic| walk_at "call builtin:sum") => `(tactic| (k_here; (with_reducible show wpAny _ _ (call (Value.builtin "sum") [Value.ref _]) _ _ _); k_dflt (refine' sum_N ?F ?N ?h ?l ?i ?_; (case F => k_asm); (case N => k_asm); (case h => exact rfl); (case l => k_mem); (case i => assumption)); intro h' tk' t' F' N'))

local macro_rules | `(tactic| walk_at "call builtin:min") => `(tactic| (k_here; k_dflt (first | (refine' min3_N ?F ?N ?h ?_; (case F => k_asm); (case N => k_asm); (case h => exact rfl); k_whole) | (refine' min2_N ?F ?N ?h ?_; (case F => k_asm); (case N => k_asm); (case h => exact rfl); k_whole)); intro h' tk' t' F' N'))
local macro_rules | `(tactic| walk_at "call builtin:max") => `(tactic| (k_here; (with_reducible show wpAny _ _ (call (Value.builtin "max") [Value.int _ _, Value.int _ _]) _ _ _); k_dflt (refine' max2_N ?F ?N ?h ?_; (case F => k_asm); (case N => k_asm); (case h => exact rfl); k_whole); intro h' tk' t' F' N'))

set_option maxRecDepth 100000 in
set_option maxHeartbeats 8000000 in
theorem least_spec {w : World} {p : Program} {loose : List Str} {mean : ExcName → Option Value} {mg mb : Str → Option Value} {news : List (Addr × Obj)}
   {dp un : Nat} {gd : Option (List Code)} {cn : Str} {cs : Scope} {a : Addr} {ccd : Value} {cl : List (Str × Addr)} {outer : List Env} {A₀ : Around} {base h₀ : Heap} {L : Addr} {m : Str → Option Value} {s : Shared} {R : Result → Shared → Prop}  {z1 z2 : Str} {lo hi : Int} {tz1 tz2 u1 u2 : Tok}
   (B : Below A₀ base outer h₀) (F : Fr h₀ L s.heap m) (X : (hd.heap_39 w.params).In h₀) (N : News h₀ L s.heap (news)) (T : Top p loose mean mg mb h₀) (hck : cs.kind = .function)
   (hroom : dp + 8 < recursionLimit) (hunits : un + 200 < cLine) (hz1 : z1.length ≤ 60) (hz2 : 1 ≤ z1.length) (hz3 : z2.length ≤ 60) (hz4 : 1 ≤ z2.length)
   (hret : ∀ t h' tk', Fr h₀ L h' m → News h₀ L h' (news) → R (.ok (.ret (.int (leastV z1 z2 lo hi) t))) { s with heap := h', toks := tk' }) :
   codeAny (model PySem.Challenge.rw_br0031_01.row.prog w) (ktrTop dp un gd cn cs L a ccd cl outer) (.call (.ref 216) ⟨[.str z1 tz1, .str z2 tz2, .int lo u1, .int hi u2], []⟩) R s := by
  w_top off
  revert X; k_fill; intro X
  (refine' code_defC ?k1 ?k2 ?k3 ?k4 ?k5 ?kA ?kF ?kK ?k6 ?k7 ?k8 ?k9 ?kB ?kD ?_ ?c2 ?c3 ?c4; (case kA => exact rfl); (case kF => exact rfl); (case kK => assumption); (case k1 => k_asm); (case k2 => k_asm); (case k3 => k_asm); (case k4 => k_asm); (case k5 => k_asm); (case k6 => k_is); (case k7 => k_is); (case k8 => ktr_room); (case k9 => exact BindsTo.of_eq rfl); (case kB => exact rfl); (case kD => decide +kernel); (case c2 => exact rfl); (case c3 => exact rfl); (case c4 => exact rfl); k_whole)
  intro g1 L1 h1 tk1 cells1 FG1 F1 N1 Y1 B1 X1 T1 l1
  obtain ⟨o1a, o1b, o1c, hE1, d1a, d1b, d1c⟩ := CellsAre.three Y1
  subst hE1
  clear Y1
  (try simp only [List.cons_append, List.nil_append] at N1)
  (try k_lt l1); (try dsimp only); (try k_lift B1); (try k_fold)
  have hn0 : ∀ p ∈ news, @LT.lt Nat _ p.1 L1 := l1
  have hn1 : ∀ p ∈ news, @Ne Nat p.1 (L1 + 1) := fun p hp => Nat.ne_of_lt (Nat.lt_add_right 1 (hn0 p hp))
  have hn2 : ∀ p ∈ news, @Ne Nat p.1 (L1 + 1 + 1) := fun p hp => Nat.ne_of_lt (Nat.lt_add_right 2 (hn0 p hp))
  have hn3 : ∀ p ∈ news, @Ne Nat p.1 (L1 + 1 + 1 + 1) := fun p hp => Nat.ne_of_lt (Nat.lt_add_right 3 (hn0 p hp))
  k_steps
  have hla : (alone z1 lo hi).length ≤ 60 := by unfold alone aloneTo; simp only [List.length_cons, List.length_map, List.length_range]; omega
  have hlb : (alone z2 lo hi).length ≤ 60 := by unfold alone aloneTo; simp only [List.length_cons, List.length_map, List.length_range]; omega
  rename IntsAre _ (alone z1 lo hi) => hyA
  rename IntsAre _ (alone z2 lo hi) => hyB
  have hle1 : (alone z1 lo hi).length = z1.length := by unfold alone aloneTo; simp only [List.length_cons, List.length_map, List.length_range]; omega
  have hle2 : (alone z2 lo hi).length = z2.length := by unfold alone aloneTo; simp only [List.length_cons, List.length_map, List.length_range]; omega
  have hlA := hyA.length
  have hlB := hyB.length
  rename News _ _ _ _ => Nb
  refine Stop.into ?_
  k_dflt (refine' Assign_ListComp_X (a := 0) (n := z1.length + 1) (fun base i ys rest => ∃ rows, ys = refs rows ∧ rest = rowsL rows ++ base ∧ RowsOk rows base ∧ RowsFn rows i (z2.length + 1) (fun i j => sumFrom (alone z1 lo hi) i + sumFrom (alone z2 lo hi) j)) ?gF ?gN ?gL ?gh ?gsw ?gcl ?gk ?gnm ?gx ?gcf ?gpc ?gy ?gp ?gsz ?gs ?gj ?gt ?gd)
  (case gF => k_asm)
  (case gN => k_asm)
  (case gL => exact rfl)
  (case gh => exact rfl)
  (case gsw => with_unfolding_all rfl)
  (case gcl => with_unfolding_all rfl)
  (case gk => exact rfl)
  (case gnm => decide)
  (case gx => intro _; rfl)
  (case gcf => intro _; rfl)
  (case gpc => intro _; rfl)
  (case gy => exact rfl)
  (case gp => exact rfl)
  (case gsz => (rw [PySem.sizeLine_eq]; omega))
  (case gs =>
    k_steps
    walk_at "mine range")
  (case gj => exact ⟨[], rfl, rfl, ⟨List.nodup_nil, fun _ h => (nomatch h)⟩, RowsFn.nil⟩)
  (case gt =>
    rintro i kv t ys rest I oI C oC X oX D s4 h4 tk4 hi4 hkv hyl ⟨rows, rfl, rfl, hok, hfn⟩ dX hltI ⟨hID, hDC, rfl⟩ off F4 N4
    k_steps
    refine Stop.into ?_
    k_dflt (refine LCg.ListComp_U (F₀ := by k_asm) (by with_unfolding_all rfl) (by decide) (by rfl) (by decide) (by rfl) ?_)
    k_steps
    refine Stop.into ?_
    walk_at "mine rng1"
    intro g'
    refine' restU_inv (fun j ys => IntsAre ys ((List.range j).map fun (b : Nat) => ((alone z1 lo hi).drop kv.toNat).sum + ((alone z2 lo hi).drop (0 + (b : Int)).toNat).sum)) IntsAre.nil ?_ ?_
    · intro j v ys2 I2 oI2 C2 oC2 D2 m2 h6 tk6 E2 hj2 hv hy2 hC hx F6 N6 off6 ne6
      obtain ⟨t9, rfl⟩ := hv
      k_steps
      walk_at "mine cend"
      exact ints_snoc hy2 rfl
    · intro ys2 hy2
      (show LCg.FinE _ _ _ _ _ _ _)
      intro D6 h6 tk6 F6 N6 o6
      have o7 := off1_all o6
      refine' ⟨_, _, _, rfl, ?xF, ?xN, ?xO, rows ++ [(D6, ys2)], (refs_snoc rows D6 ys2).symm, rfl, hok.snoc ?x1 ?x2, hfn.snoc ?x3 ?x4⟩
      (case xF => k_asm)
      (case xN =>
        rw [rowsL_snoc]
        (simp only [List.append_assoc, List.cons_append, List.nil_append])
        refine' cb_drop N6 ?xD
        (case xD => kcf_all))
      (case xO => exact off_snoc (P := fun b => b ≠ I ∧ b ≠ C ∧ b ≠ C + 1 ∧ b ≠ D) off ⟨Ne.symm (o7 _ (.head _)), Ne.symm (o7 _ (.tail _ (.head _))), Ne.symm (o7 _ (.tail _ (.tail _ (.head _)))), Ne.symm (o7 _ (.tail _ (.tail _ (.tail _ (.head _)))))⟩)
      (case x1 => exact rowsL_off' fun p hp => o7 p (.tail _ (.tail _ (.tail _ (.tail _ (List.mem_append_left _ hp))))))
      (case x2 => exact fun p hp => o7 p (.tail _ (.tail _ (.tail _ (.tail _ (List.mem_append_right _ hp))))))
      (case x3 => (rw [hy2.length]; simp only [List.length_map, List.length_range]; omega))
      (case x4 =>
        intro j hj
        obtain ⟨t', ht'⟩ := ints_range hy2 j (by omega)
        refine ⟨t', ?_⟩
        rw [ht']
        have e1 : kv.toNat = i := by omega
        have e2 : (0 + (j : Int)).toNat = j := by omega
        rw [e1, e2]
        rfl))
  (case gd =>
    rintro D ys rest h5 tk5 hyl ⟨rows, rfl, rfl, hok, hfn⟩ F5 N5 off
    (try dsimp only)
    k_steps
    refine Stop.into ?_
    k_dflt (refine' for_range (a := (z1.length : Int) - 1) (st := -1) (n := z1.length) [Str.ofString "j", Str.ofString "paired"] (fun _ i rest => ∃ rs f, rest = (D, LCg.lst (refs rs)) :: (rowsL rs ++ ledgerOf Nb) ∧ RowsOk rs (ledgerOf Nb) ∧ (∀ r ∈ rs, @Ne Nat D r.1) ∧ RowsFn rs (z1.length + 1) (z2.length + 1) f ∧
        (∀ a b, a ≤ z1.length → b ≤ z2.length → (z1.length - i ≤ a ∨ b = z2.length) → f a b = bwz z1 z2 lo hi (z1.length - a) (z2.length - b))) ?fF ?fN ?fh ?fk ?fp ?fs ?fj ?ft ?fd)
    (case fF => k_asm)
    (case fN => k_asm)
    (case fh => exact rfl)
    (case fk => exact rfl)
    (case fp => exact rfl)
    (case fs =>
      k_steps
      walk_at "mine down")
    (case fj => exact ⟨rows, _, rfl, hok, fun r hr => Ne.symm (rowsL_off' (fun p hp => off p (List.mem_append_left _ hp)) r hr), hfn, bw_init⟩)
    (case ft =>
      rintro i kv t u rest I oI s5 h7 tk7 hi7 hkv ⟨rs, f, rfl, hok7, hDr, hfn7, hsp⟩ off7 hlt F7 N7
      simp only [offW] at F7
      k_steps
      refine Stop.into ?_
      have hdn : (kv.toNat : Int) = kv := by omega
      have hDI : @Ne Nat D I := off7 _ (.head _)
      have hk1 : kv.toNat < z1.length := by omega
      have hLl := hlA
      k_dflt (refine' for_range (a := (z2.length : Int) - 1) (st := -1) (n := z2.length) [Str.ofString "paired"] (fun _ j rest => ∃ rs f, rest = (I, oI) :: (D, LCg.lst (refs rs)) :: (rowsL rs ++ ledgerOf Nb) ∧ RowsOk rs (ledgerOf Nb) ∧ (∀ r ∈ rs, @Ne Nat D r.1) ∧ (∀ r ∈ rs, @Ne Nat I r.1) ∧ RowsFn rs (z1.length + 1) (z2.length + 1) f ∧
          (∀ a b, a ≤ z1.length → b ≤ z2.length → (z1.length - i ≤ a ∨ b = z2.length ∨ (a = kv.toNat ∧ z2.length - j ≤ b)) → f a b = bwz z1 z2 lo hi (z1.length - a) (z2.length - b))) ?hF ?hN ?hh ?hk ?hp ?hs ?hj ?ht ?hd)
      (case hF => k_asm)
      (case hN => k_asm)
      (case hh => exact rfl)
      (case hk => exact rfl)
      (case hp => exact rfl)
      (case hs =>
        k_steps
        walk_at "mine down")
      (case hj => exact ⟨rs, f, rfl, hok7, hDr, fun r hr => Ne.symm (rowsL_off' (fun p hp => off7 p (.tail _ (List.mem_append_left _ hp))) r hr), hfn7, fun a b ha hb hc => hsp a b ha hb (by omega)⟩)
      (case ht =>
        rintro j kw t' u' rest I2 oI2 s6 h9 tk9 hj9 hkw ⟨rs, f, rfl, hok9, hDr, hIr, hfn9, hsp9⟩ off9 hlt9 F9 N9
        simp only [offW] at F9
        obtain ⟨r0, hr0, hr0l, hr0v⟩ := hfn9.2 kv.toNat (by omega)
        obtain ⟨r1, hr1, hr1l, hr1v⟩ := hfn9.2 (kv + 1).toNat (by omega)
        obtain ⟨t11, h11⟩ := hr1v (kw + 1).toNat (by omega)
        obtain ⟨t10, h10⟩ := hr1v kw.toNat (by omega)
        obtain ⟨t01, h01⟩ := hr0v (kw + 1).toNat (by omega)
        have href0 := refs_at hr0
        have href1 := refs_at hr1
        have hmem0 := row_mem hr0
        have hmem1 := row_mem hr1
        have hnd := hok9.nd
        have hI2r : ∀ r ∈ rs, @Ne Nat I2 r.1 := fun r hr e => off9 (r.1, LCg.lst r.2) (.tail _ (.tail _ (List.mem_append_left _ (List.mem_map.mpr ⟨r, hr, rfl⟩)))) e.symm
        have hbr : ∀ r ∈ rs, ∀ p ∈ ledgerOf Nb, @Ne Nat p.1 r.1 := hok9.off
        obtain ⟨tA, hA⟩ := ints_at hyA kv.toNat (by omega)
        obtain ⟨tB, hB⟩ := ints_at hyB kw.toNat (by omega)
        k_steps
        refine' ⟨_, _, _, _, rfl, ?jF, ?jN, ?jO, ⟨rs.set kv.toNat (r0.1, r0.2.set kw.toNat (.int _ _)), _, by rw [refs_set hr0], hok9.set hr0 _, ne_set hr0 hDr _, ne_set hr0 hIr _, hfn9.set hr0 ?jL _ _, ?jS⟩, ?jM⟩
        (case jF => k_asm)
        (case jN => walk_at "mine led")
        (case jL => omega)
        (case jM => walk_at "mine off")
        (case jO => exact List.forall_mem_cons.mpr ⟨off9 _ (.head _), List.forall_mem_cons.mpr ⟨off9 (D, LCg.lst (refs rs)) (.tail _ (.head _)), List.forall_mem_append.mpr ⟨rowsL_off (fun r hr => Ne.symm (ne_set hr0 hI2r _ r hr)), fun p hp => off9 p (.tail _ (.tail _ (List.mem_append_right _ hp)))⟩⟩⟩)
        (case jS =>
          refine bw_step hi7 hj9 (by omega) (by omega) hsp9 ?_
          have e1 : (kv + 1).toNat = kv.toNat + 1 := by omega
          have e2 : (kw + 1).toNat = kw.toNat + 1 := by omega
          have e3 : (kw.toNat : Int) = kw := by omega
          rw [e1, e2, hdn, e3]))
      (case hd =>
        rintro u' rest h9 tk9 ⟨rs, f, rfl, hok9, hDr, hIr, hfn9, hsp9⟩ F9 N9
        simp only [offW] at F9
        k_steps
        refine' ⟨_, _, _, _, rfl, ?iF, ?iN, ?iO, ⟨rs, f, rfl, hok9, hDr, hfn9, fun a b ha hb hc => hsp9 a b ha hb (by omega)⟩, ?iM⟩
        (case iF => k_asm)
        (case iN => walk_at "mine led")
        (case iM => walk_at "mine off")
        (case iO => exact List.forall_mem_cons.mpr ⟨hDI, List.forall_mem_append.mpr ⟨rowsL_off (fun r hr => Ne.symm (hIr r hr)), fun p hp => off7 p (.tail _ (List.mem_append_right _ hp))⟩⟩)))
    (case fd =>
      rintro u rest h8 tk8 ⟨rs, f, rfl, hok7, hDr, hfn7, hsp⟩ F8 N8
      simp only [offW] at F8
      obtain ⟨r0, hr0, hr0l, hr0v⟩ := hfn7.2 0 (by omega)
      obtain ⟨t00, h00⟩ := hr0v 0 (by omega)
      have href0 : (refs rs)[(0 : Int).toNat]? = some (.ref r0.1) := refs_at hr0
      have h00' : r0.2[(0 : Int).toNat]? = some (.int (f 0 0) t00) := h00
      have hmem0 := row_mem hr0
      have efin : f 0 0 = leastV z1 z2 lo hi := hsp 0 0 (Nat.zero_le _) (Nat.zero_le _) (by omega)
      k_steps
      refine' cast_ret efin.symm (hret _ _ _ ?zF ?zN)
      (case zF => k_asm)
      (case zN => first | k_asm | (refine' cb_drop ?cbN ?cbS; (case cbN => assumption); (case cbS => kcj_all)))))
end Mine

-- MMax
namespace Mine
open PySem PySem.W PySem.Calls PyProof.Rows PySem.Spec
set_option maxRecDepth 100000
section
variable {prog : Program} {w : World} {A : Around} {E : Value → Shared → Prop} {s : Shared}
def lensAt (x y : Str) (i : Nat) : Int := if i = 0 then (x.length : Int) else (y.length : Int)
theorem Walks_map_len {mp T I D : Addr} {x y : Str} {tx ty : Tok} (hh : A.handled = none) (h1 : mp ≠ I) (h2 : T ≠ I) (h3 : D ≠ I) (hx : x.length ≤ 64) (hy : y.length ≤ 64) :
    Walks prog w A mp [mp, T, I, D] [I] 2 (fun i v => ∃ t, v = .int (lensAt x y i) t)
      (fun i h => h.get? mp = some (mapObj T (.builtin "len")) ∧ h.get? T = some (oneTup (.ref I)) ∧ h.get? I = some (tupIt D i) ∧ ∃ nt, h.get? D = some (pairTup x y tx ty nt)) where
  sub := fun b hb => by rw [List.mem_singleton.mp hb]; simp
  frame := fun i h h' st hk => ⟨hk mp (by simp) _ st.1, hk T (by simp) _ st.2.1, hk I (by simp) _ st.2.2.1, by obtain ⟨nt, e⟩ := st.2.2.2; exact ⟨nt, hk D (by simp) _ e⟩⟩
  item := fun i s Q E hi st hQ => by
    obtain ⟨g1, g2, g3, nt, g4⟩ := st
    have key : ∀ (z : Str) (tz : Tok), (#[.str x tx, .str y ty] : Array Value)[i]? = some (.str z tz) → (z.length : Int) = lensAt x y i → z.length ≤ 64 → wpAny (model prog w) A (pyNext (.ref mp)) Q E s := fun z tz hz hl h64 => by
      refine pyNext_map_item g1 g2 g3 ⟨_, g4, rfl, _, rfl⟩ hz h1 fun h' hi' hs' => ?_
      refine P.len_str (by omega) ?_
      refine hQ _ h' _ ⟨_, by rw [hl]⟩ ⟨(hs'.2 _ h1).trans g1, (hs'.2 _ h2).trans g2, hi', nt, (hs'.2 _ h3).trans g4⟩ fun b o hb e => hs'.extBut b o (fun q => hb (by simp [q])) e
    match i, hi with
    | 0, _ => exact key x tx rfl rfl hx
    | 1, _ => exact key y ty rfl rfl hy
  done := fun s Q E st hQ => by
    obtain ⟨g1, g2, g3, nt, g4⟩ := st
    exact pyNext_map_end hh g1 g2 ⟨_, g3, rfl, rfl⟩ ⟨_, g4, rfl, _, rfl⟩ rfl fun h' hk => hQ h' s.toks fun b o hb e => hk b o (fun q => hb (by simp [q])) e
  self := fun i s Q E st hQ => pyIter_map st.1 hQ
variable {h₀ : Heap} {L : Addr} {m : Str → Option Value} {news : List (Addr × Obj)}
/-- `max(map(len, (x, y)))` -/
theorem max_map_len {mp T I D : Addr} {x y : Str} {tx ty : Tok} {nt : Nat} {Q : Value → Shared → Prop} (hh : A.handled = none) (F : Fr h₀ L s.heap m) (N : News h₀ L s.heap ((I, tupIt D 0) :: news))
    (hoff : ∀ p ∈ news, p.1 ≠ I) (hmp : (mp, mapObj T (.builtin "len")) ∈ news) (hT : (T, oneTup (.ref I)) ∈ news) (hD : (D, pairTup x y tx ty nt) ∈ news) (hx : x.length ≤ 64) (hy : y.length ≤ 64)
    (h : ∀ h' tk t, Fr h₀ L h' m → News h₀ L h' news → Q (.int (max (x.length : Int) (y.length : Int)) t) { s with heap := h', toks := tk }) : wpAny (model prog w) A (call (.builtin "max") [.ref mp]) Q E s := by
  have NI := N _ List.mem_cons_self
  have z1 := (N _ (.tail _ hmp)).1
  have z2 := (N _ (.tail _ hT)).1
  have z3 := (N _ (.tail _ hD)).1
  refine call_max_walk (pyIter_map z1 ?_)
  refine ⟨mp, _, _, 2, _, _, _, rfl, Walks_map_len (x := x) (y := y) (tx := tx) (ty := ty) hh (hoff _ hmp) (hoff _ hT) (hoff _ hD) hx hy, ⟨z1, z2, NI.1, nt, z3⟩, fun b hb => ?_, by decide, CmpOf.ints_gt (lensAt x y) (fun _ _ e => e), fun v h' tk hP hk => ?_⟩
  · simp only [List.mem_cons, List.not_mem_nil, or_false] at hb
    rcases hb with rfl | rfl | rfl | rfl
    · exact Heap.lt_size z1
    · exact Heap.lt_size z2
    · exact Heap.lt_size NI.1
    · exact Heap.lt_size z3
  · obtain ⟨t, rfl⟩ := hP
    have e : lensAt x y (argBest (fun i j => decide (lensAt x y i > lensAt x y j)) (2 - 1)) = max (x.length : Int) (y.length : Int) := by
      have e0 : lensAt x y 0 = (x.length : Int) := rfl
      have e1 : lensAt x y 1 = (y.length : Int) := rfl
      show lensAt x y (if decide (lensAt x y 1 > lensAt x y 0) = true then 1 else 0) = _
      by_cases c : lensAt x y 1 > lensAt x y 0
      · rw [decide_eq_true c, if_pos rfl, e1]
        rw [e0, e1] at c
        exact (Int.max_eq_right (Int.le_of_lt c)).symm
      · rw [decide_eq_false c, if_neg Bool.false_ne_true, e0]
        rw [e0, e1] at c
        exact (Int.max_eq_left (Int.not_lt.mp c)).symm
    rw [e]
    have k2 : ∀ b o, b ≠ I → s.heap.get? b = some o → h'.get? b = some o := fun b o n g => hk b o (fun q => n (List.mem_singleton.mp q)) g
    refine h h' tk t ⟨F.ns.at' fun o e => k2 _ o (Ne.symm NI.2.1) e, fun b o e => k2 b o (fun q => by rw [q, NI.2.2] at e; cases e) (F.keep b o e), F.above⟩ fun p hp => ?_
    have z := N p (.tail _ hp)
    exact ⟨k2 _ _ (hoff p hp) z.1, z.2⟩
/-- `all((x, y))` -/
theorem all_pair {D : Addr} {x y : Str} {tx ty : Tok} {nt : Nat} {Q : Value → Shared → Prop} (hh : A.handled = none) (F : Fr h₀ L s.heap m) (N : News h₀ L s.heap news)
    (hD : (D, pairTup x y tx ty nt) ∈ news) (hx : x.length ≤ 64) (hy : y.length ≤ 64)
    (h : ∀ h' tk, Fr h₀ L h' m → News h₀ L h' news → Q (.bool (((x.length : Int) != 0) && ((y.length : Int) != 0))) { s with heap := h', toks := tk }) : wpAny (model prog w) A (call (.builtin "all") [.ref D]) Q E s := by
  have zD := (N _ hD).1
  have hT : s.heap.IsTuple D (#[.str x tx, .str y ty] : Array Value) := ⟨_, zD, rfl, _, rfl⟩
  have hlt : D < s.heap.objs.size := Heap.lt_size zD
  have NE : ∀ {α : Type} {t : Sem α} {Q' : α → Shared → Prop} {E' : Value → Shared → Prop} {s' : Shared} {A' : Around}, wpAny (model prog w) A' t Q' (fun _ _ => False) s' → wpAny (model prog w) A' t Q' E' s' := fun z => wpAny_mono z (fun _ _ x => x) fun _ _ x => x.elim
  have step : ∀ (h' : Heap), Heap.SameBut s.heap.objs.size (s.heap.push (tupIt D 0)) h' → Fr h₀ L h' m ∧ News h₀ L h' news ∧ h'.IsTuple D (#[.str x tx, .str y ty] : Array Value) := fun h' hs => by
    have old : ∀ b o, s.heap.get? b = some o → h'.get? b = some o := fun b o g => (hs.2 b (Nat.ne_of_lt (Heap.lt_size g))).trans (Heap.get?_push_of_some _ g)
    exact ⟨F.keeps old, N.grown old, _, old _ _ zD, rfl, _, rfl⟩
  refine call_function_tree PySem.F.kind_all PySem.F.plain_all PySem.F.entry_all (PySem.F.args_all1 _) ?_
  unfold Builtin.«all»
  refine wpAny_bind (m := oneArg "all" _) (wpAny_pure ?_)
  refine wpAny_bind (wpAny_pyIter_tuple hT (wpAny_pure ⟨plainId_quiet PySem.F.plain_all_loop _, ?_⟩))
  have hT0 : (s.heap.push (tupIt D 0)).IsTuple D (#[.str x tx, .str y ty] : Array Value) := hT.push _
  refine codeAny_builtin PySem.F.entry_all_loop ?_
  rw [Around.under_plainId PySem.F.plain_all_loop _]
  show wpAny _ A.in1 (pyNext (.ref s.heap.objs.size) >>= _) _ _ _
  refine wpAny_bind (NE (pyNext_tup_item (s := { s with heap := s.heap.push (tupIt D 0) }) (i := 0) (x := .str x tx) (Heap.get?_push_size _ rfl) hT0 rfl fun h₁ hi₁ hs₁ => ?_))
  obtain ⟨F₁, N₁, T₁⟩ := step h₁ hs₁
  refine wpAny_bind (wpAny_holding (P.truthy_str (by omega) ?_))
  refine wpAny_bind (wpAny_letGo ?_)
  cases hb : ((x.length : Int) != 0) with
  | false =>
    simp only [Bool.false_eq_true, if_false]
    have z := h h₁ (s.toks + 1 + 1) F₁ N₁
    rw [hb, Bool.false_and] at z
    exact wpAny_bind (wpAny_rule (wpAny_pure z))
  | true =>
    simp only [if_true]
    refine wpAny_pure ⟨plainId_quiet PySem.F.plain_all_loop _, ?_⟩
    refine codeAny_builtin PySem.F.entry_all_loop ?_
    rw [Around.under_plainId PySem.F.plain_all_loop _]
    show wpAny _ A.in1 (pyNext (.ref s.heap.objs.size) >>= _) _ _ _
    refine wpAny_bind (NE (pyNext_tup_item (s := { s with heap := h₁, toks := s.toks + 1 + 1 }) (i := 1) (x := .str y ty) hi₁ T₁ rfl fun h₂ hi₂ hs₂ => ?_))
    obtain ⟨F₂, N₂, T₂⟩ := step h₂ (hs₁.trans hs₂)
    refine wpAny_bind (wpAny_holding (P.truthy_str (by omega) ?_))
    refine wpAny_bind (wpAny_letGo ?_)
    cases hb2 : ((y.length : Int) != 0) with
    | false =>
      simp only [Bool.false_eq_true, if_false]
      have z := h h₂ (s.toks + 1 + 1 + 1 + 1) F₂ N₂
      rw [hb, hb2, Bool.true_and] at z
      exact wpAny_bind (wpAny_rule (wpAny_pure z))
    | true =>
      simp only [if_true]
      refine wpAny_pure ⟨plainId_quiet PySem.F.plain_all_loop _, ?_⟩
      refine codeAny_builtin PySem.F.entry_all_loop ?_
      rw [Around.under_plainId PySem.F.plain_all_loop _]
      show wpAny _ A.in1 (pyNext (.ref s.heap.objs.size) >>= _) _ _ _
      refine wpAny_bind (wpAny_pyNext_tuple_end (s := { s with heap := h₂, toks := s.toks + 1 + 1 + 1 + 1 }) hh ⟨_, hi₂, rfl, rfl⟩ T₂ rfl fun h₃ hk₃ => ?_)
      have old : ∀ b o, s.heap.get? b = some o → h₃.get? b = some o := fun b o g => hk₃ b o (Nat.ne_of_lt (Heap.lt_size g)) (((hs₁.trans hs₂).2 b (Nat.ne_of_lt (Heap.lt_size g))).trans (Heap.get?_push_of_some _ g))
      have z := h h₃ (s.toks + 1 + 1 + 1 + 1) (F.keeps old) (N.grown old)
      rw [hb, hb2, Bool.true_and] at z
      exact wpAny_bind (wpAny_rule (wpAny_pure z))
end
end Mine

-- MMaxi
namespace Mine
open PySem PySem.W PySem.Calls PyProof.Rows
local macro_rules | `(tactic| walk_at "mine enter") => `(tactic| (refine' code_def ?k1 ?k2 ?k3 ?k4 ?k5 ?kA ?kF ?kK ?k6 ?k7 ?k8 ?k9 ?kB ?_ ?c2 ?c3 ?c4 ?c5; (case kA => exact rfl); (case kF => exact rfl); (case kK => assumption); (case k1 => k_asm); (case k2 => k_asm); (case k3 => k_asm); (case k4 => k_asm); (case k5 => k_asm); (case k6 => k_is); (case k7 => k_is); (case k8 => ktr_room); (case k9 => first | exact BindsTo.of_eq rfl | exact binds_K (by k_in) rfl (by k_is) rfl rfl rfl); (case c5 => decide); (case kB => exact locs rfl); (case c2 => exact rfl); (case c3 => exact rfl); (case c4 => exact rfl); k_whole; intro g' L' h' FG' F' N' B' X' T'; (try dsimp only); (try k_lift B'); (try k_fold)))
local macro_rules | `(tactic| walk_at "mine enterC") => `(tactic| (refine' code_defC ?k1 ?k2 ?k3 ?k4 ?k5 ?kA ?kF ?kK ?k6 ?k7 ?k8 ?k9 ?kB ?kD ?_ ?c2 ?c3 ?c4; (case kA => exact rfl); (case kF => exact rfl); (case kK => assumption); (case k1 => k_asm); (case k2 => k_asm); (case k3 => k_asm); (case k4 => k_asm); (case k5 => k_asm); (case k6 => k_is); (case k7 => k_is); (case k8 => ktr_room); (case k9 => exact BindsTo.of_eq rfl); (case kB => exact rfl); (case kD => decide +kernel); (case c2 => exact rfl); (case c3 => exact rfl); (case c4 => exact rfl); k_whole; intro g' L' h' tk' cells' FG' F' N' Y' B' X' T' l1; (try k_lt l1); k_cells Y'; (try simp only [List.cons_append, List.nil_append] at N'); (try dsimp only); (try k_lift B'); (try k_fold)))
local macro_rules | `(tactic| walk_at "mine enterR") => `(tactic| (refine' kp_rest ?k1 ?k2 ?k3 ?k4 ?k5 ?kA ?kF ?kK ?k6 ?k7 ?k8 ?kV ?kP ?kG ?kB ?_ ?c2 ?c3 ?c4 ?c5; (case kA => exact rfl); (case kF => exact rfl); (case kK => assumption); (case k1 => k_asm); (case k2 => k_asm); (case k3 => k_asm); (case k4 => k_asm); (case k5 => k_asm); (case k6 => k_is); (case k7 => k_is); (case k8 => ktr_room); (case kV => kl_lit); (case kP => exact rfl); (case kG => exact fun _ => rfl); (case kB => exact fun _ => locs rfl); (case c5 => decide); (case c2 => exact rfl); (case c3 => exact rfl); (case c4 => exact rfl); k_whole; intro D' g' L' h' l1 FG' F' N' B' X' T'; (try k_lt l1); (try dsimp only); (try k_lift B'); (try k_fold)))
local macro_rules | `(tactic| walk_at "mine enterRC") => `(tactic| (refine' rest_cells ?k1 ?k2 ?k3 ?k4 ?k5 ?kA ?kF ?kK ?k6 ?k7 ?k8 ?kV ?kP ?kG ?kB ?kD ?_ ?c2 ?c3 ?c4; (case kA => exact rfl); (case kF => exact rfl); (case kK => assumption); (case k1 => k_asm); (case k2 => k_asm); (case k3 => k_asm); (case k4 => k_asm); (case k5 => k_asm); (case k6 => k_is); (case k7 => k_is); (case k8 => ktr_room); (case kV => kl_lit); (case kP => exact rfl); (case kG => exact fun _ => rfl); (case kB => exact fun _ => rfl); (case kD => decide +kernel); (case c2 => exact rfl); (case c3 => exact rfl); (case c4 => exact rfl); k_whole; intro D' g' L' h' tk' cells' l0 lD FG' F' N' Y' B' X' T' l1; (try k_lt l0); (try k_lt l1); k_cells Y'; (try simp only [List.cons_append, List.nil_append] at N'); (try dsimp only); (try k_lift B'); (try k_fold)))

local macro_rules | `(tactic| k_all) => `(tactic| assumption)
local macro_rules | `(tactic| k_room) => `(tactic| ktr_room)
local macro_rules | `(tactic| k_mem) => `(tactic| exact List.mem_append.mpr (.inl (by assumption)))
local macro_rules | `(tactic| walk_at "mine seg") => `(tactic| (first | (refine' SegF.here ?sgC; (case sgC => assumption)) | (refine' SegF.there ?sgA ?sgB; (case sgA => k_ne); (case sgB => walk_at "mine seg"))))
local macro_rules | `(tactic| walk_at "eval Lambda") => `(tactic| (k_here; k_dflt (refine' lam_evalT ?F ?N ?T ?C ?S ?hT ?hN ?hd ?hcl ?_; (case F => k_asm); (case N => k_asm); (case T => k_asm); (case C => kn_code); (case S => walk_at "mine seg"); (case hT => assumption); (case hN => kcj_all); (case hd => exact rfl); (case hcl => exact rfl); k_whole); intro f' c' oc' vs' t' ct' tabs' h' tk' F' N' hT' hm' d1' d2' l1 lt'; (try dsimp only at N'); (try k_lt l1)))
local macro_rules | `(tactic| walk_at "call type:map") => `(tactic| (k_here; (with_reducible show wpAny _ _ (call (Value.type "map") [_, Value.ref _]) _ _ _); k_dflt (refine' call_map_N ?k1 ?k2 ?k3 ?_; (case k1 => k_asm); (case k2 => k_asm); (case k3 => k_mem); k_whole); intro I' h' F' N' l1; (try k_lt l1)))

local macro_rules | `(tactic| walk_at "call type:map") => `(tactic| (k_here; (with_reducible show wpAny _ _ (call (Value.type "map") [_, Value.ref _]) _ _ _); k_dflt (refine' call_map_N ?k1 ?k2 ?k3 ?_; (case k1 => k_asm); (case k2 => k_asm); (case k3 => k_mem); k_whole); intro I' h' F' N' l1; (try k_lt l1)))
local macro_rules | `(tactic| walk_at "call builtin:max") => `(tactic| (k_here; (with_reducible show wpAny _ _ (call (Value.builtin "max") [Value.ref _]) _ _ _); k_dflt (refine' max_map_len ?hh ?F ?N ?off ?mp ?T ?D ?hx ?hy ?_; (case hh => exact rfl); (case F => k_asm); (case N => k_asm); (case off => k_all); (case mp => k_mem); (case T => k_mem); (case D => k_mem); (case hx => assumption); (case hy => assumption); k_whole); intro h' tk' t' F' N'))
local macro_rules | `(tactic| k_all) => `(tactic| first | assumption | (refine List.forall_mem_cons.mpr ⟨?_, ?_⟩; (focus k_ne); k_all) | exact fun p hp => Nat.ne_of_lt (kst_ltOf (by assumption) p hp))

set_option maxRecDepth 100000 in
set_option maxHeartbeats 8000000 in
theorem maximum_spec {w : World} {p : Program} {loose : List Str} {mean : ExcName → Option Value} {mg mb : Str → Option Value} {news : List (Addr × Obj)}
   {dp un : Nat} {gd : Option (List Code)} {cn : Str} {cs : Scope} {a : Addr} {ccd : Value} {cl : List (Str × Addr)} {outer : List Env} {A₀ : Around} {base h₀ : Heap} {L : Addr} {m : Str → Option Value} {s : Shared} {R : Result → Shared → Prop} {lo hi : Int} {k1 k2 k3 k4 k5 k6 : Int} {t1 t2 t3 t4 t5 t6 u1 u2 u3 u6 : Tok} {x dx : Addr} {z1 z2 : Str} {tx ty : Tok}
   (B : Below A₀ base outer h₀) (F : Fr h₀ L s.heap m) (X : (hd.heap_39 w.params).In h₀) (N : News h₀ L s.heap ((x, instObj 192 dx) :: (dx, edDict lo hi k1 k2 k3 k4 k5 k6 t1 t2 t3 t4 t5 t6 u1 u2 u3 u6) :: news)) (T : Top p loose mean mg mb h₀) (hck : cs.kind = .function)
   (hroom : dp + 4 < recursionLimit) (hunits : un + 64 < cLine) (hx : z1.length ≤ 64) (hy : z2.length ≤ 64)
   (hret : ∀ t h' tk', Fr h₀ L h' m → News h₀ L h' ((x, instObj 192 dx) :: (dx, edDict lo hi k1 k2 k3 k4 k5 k6 t1 t2 t3 t4 t5 t6 u1 u2 u3 u6) :: news) → R (.ok (.ret (.int (max (z1.length : Int) (z2.length : Int) * hi) t))) { s with heap := h', toks := tk' }) :
   codeAny (model PySem.Challenge.rw_br0031_01.row.prog w) (ktrTop dp un gd cn cs L a ccd cl outer) (.call (.ref 170) ⟨[.ref x, .str z1 tx, .str z2 ty], []⟩) R s := by
  w_top off
  revert X; k_fill; intro X
  (walk_at "mine enterR")
  k_steps
  (refine' hret _ _ _  ?e2 ?e3; (case e2 => k_asm); (case e3 => first | k_asm | (refine' cb_drop ?cbN ?cbS; (case cbN => assumption); (case cbS => kcj_all))))

theorem maximum_any {w : World} {p : Program} {loose : List Str} {mean : ExcName → Option Value} {mg mb : Str → Option Value} 
   {dp un : Nat} {gd : Option (List Code)} {cn : Str} {cs : Scope} {a : Addr} {ccd : Value} {cl : List (Str × Addr)} {outer : List Env} {A₀ : Around} {base h₀ : Heap} {L : Addr} {m : Str → Option Value} {s : Shared} {R : Result → Shared → Prop} {lo hi : Int} {k1 k2 k3 k4 k5 k6 : Int} {t1 t2 t3 t4 t5 t6 u1 u2 u3 u6 : Tok} {x dx : Addr} {z1 z2 : Str} {tx ty : Tok} {led : List (Addr × Obj)}
   (B : Below A₀ base outer h₀) (F : Fr h₀ L s.heap m) (X : (hd.heap_39 w.params).In h₀) (N : News h₀ L s.heap led) (T : Top p loose mean mg mb h₀) (hck : cs.kind = .function)
   (hroom : dp + 4 < recursionLimit) (hunits : un + 64 < cLine) (hx : z1.length ≤ 64) (hy : z2.length ≤ 64)
   (mi : (x, instObj 192 dx) ∈ led) (md : (dx, edDict lo hi k1 k2 k3 k4 k5 k6 t1 t2 t3 t4 t5 t6 u1 u2 u3 u6) ∈ led)
   (hret : ∀ t h' tk', Fr h₀ L h' m → News h₀ L h' (led) → R (.ok (.ret (.int (max (z1.length : Int) (z2.length : Int) * hi) t))) { s with heap := h', toks := tk' }) :
   codeAny (model PySem.Challenge.rw_br0031_01.row.prog w) (ktrTop dp un gd cn cs L a ccd cl outer) (.call (.ref 170) ⟨[.ref x, .str z1 tx, .str z2 ty], []⟩) R s :=
  maximum_spec (x := x) (dx := dx) (lo := lo) (hi := hi) (k1 := k1) (k2 := k2) (k3 := k3) (k4 := k4) (k5 := k5) (k6 := k6) (t1 := t1) (t2 := t2) (t3 := t3) (t4 := t4) (t5 := t5) (t6 := t6) (u1 := u1) (u2 := u2) (u3 := u3) (u6 := u6) (news := led) B F X (fun p hp => N p (by
    rcases List.mem_cons.mp hp with rfl | hp
    · exact mi
    · rcases List.mem_cons.mp hp with rfl | hp
      · exact md
      · exact hp)) T hck hroom hunits hx hy fun t h' tk' F' N' => hret t h' tk' F' fun p hp => N' p (.tail _ (.tail _ hp))
end Mine

-- MQuick
namespace Mine
open PySem PySem.W PySem.Calls PyProof.Rows
local macro_rules | `(tactic| walk_at "mine enter") => `(tactic| (refine' code_def ?k1 ?k2 ?k3 ?k4 ?k5 ?kA ?kF ?kK ?k6 ?k7 ?k8 ?k9 ?kB ?_ ?c2 ?c3 ?c4 ?c5; (case kA => exact rfl); (case kF => exact rfl); (case kK => assumption); (case k1 => k_asm); (case k2 => k_asm); (case k3 => k_asm); (case k4 => k_asm); (case k5 => k_asm); (case k6 => k_is); (case k7 => k_is); (case k8 => ktr_room); (case k9 => first | exact BindsTo.of_eq rfl | exact binds_K (by k_in) rfl (by k_is) rfl rfl rfl); (case c5 => decide); (case kB => exact locs rfl); (case c2 => exact rfl); (case c3 => exact rfl); (case c4 => exact rfl); k_whole; intro g' L' h' FG' F' N' B' X' T'; (try dsimp only); (try k_lift B'); (try k_fold)))
local macro_rules | `(tactic| walk_at "mine enterC") => `(tactic| (refine' code_defC ?k1 ?k2 ?k3 ?k4 ?k5 ?kA ?kF ?kK ?k6 ?k7 ?k8 ?k9 ?kB ?kD ?_ ?c2 ?c3 ?c4; (case kA => exact rfl); (case kF => exact rfl); (case kK => assumption); (case k1 => k_asm); (case k2 => k_asm); (case k3 => k_asm); (case k4 => k_asm); (case k5 => k_asm); (case k6 => k_is); (case k7 => k_is); (case k8 => ktr_room); (case k9 => exact BindsTo.of_eq rfl); (case kB => exact rfl); (case kD => decide +kernel); (case c2 => exact rfl); (case c3 => exact rfl); (case c4 => exact rfl); k_whole; intro g' L' h' tk' cells' FG' F' N' Y' B' X' T' l1; (try k_lt l1); k_cells Y'; (try simp only [List.cons_append, List.nil_append] at N'); (try dsimp only); (try k_lift B'); (try k_fold)))
local macro_rules | `(tactic| walk_at "mine enterR") => `(tactic| (refine' kp_rest ?k1 ?k2 ?k3 ?k4 ?k5 ?kA ?kF ?kK ?k6 ?k7 ?k8 ?kV ?kP ?kG ?kB ?_ ?c2 ?c3 ?c4 ?c5; (case kA => exact rfl); (case kF => exact rfl); (case kK => assumption); (case k1 => k_asm); (case k2 => k_asm); (case k3 => k_asm); (case k4 => k_asm); (case k5 => k_asm); (case k6 => k_is); (case k7 => k_is); (case k8 => ktr_room); (case kV => kl_lit); (case kP => exact rfl); (case kG => exact fun _ => rfl); (case kB => exact fun _ => locs rfl); (case c5 => decide); (case c2 => exact rfl); (case c3 => exact rfl); (case c4 => exact rfl); k_whole; intro D' g' L' h' l1 FG' F' N' B' X' T'; (try k_lt l1); (try dsimp only); (try k_lift B'); (try k_fold)))
local macro_rules | `(tactic| walk_at "mine enterRC") => `(tactic| (refine' rest_cells ?k1 ?k2 ?k3 ?k4 ?k5 ?kA ?kF ?kK ?k6 ?k7 ?k8 ?kV ?kP ?kG ?kB ?kD ?_ ?c2 ?c3 ?c4; (case kA => exact rfl); (case kF => exact rfl); (case kK => assumption); (case k1 => k_asm); (case k2 => k_asm); (case k3 => k_asm); (case k4 => k_asm); (case k5 => k_asm); (case k6 => k_is); (case k7 => k_is); (case k8 => ktr_room); (case kV => kl_lit); (case kP => exact rfl); (case kG => exact fun _ => rfl); (case kB => exact fun _ => rfl); (case kD => decide +kernel); (case c2 => exact rfl); (case c3 => exact rfl); (case c4 => exact rfl); k_whole; intro D' g' L' h' tk' cells' l0 lD FG' F' N' Y' B' X' T' l1; (try k_lt l0); (try k_lt l1); k_cells Y'; (try simp only [List.cons_append, List.nil_append] at N'); (try dsimp only); (try k_lift B'); (try k_fold)))

local macro_rules | `(tactic| walk_at "eval Call Attribute") => `(tactic| (k_here; (with_reducible show wpAny _ _ (eval (Expr.Call (Expr.Attribute (Expr.Name _ _) _ _) [Expr.Starred _ _] [] _) _) _ _ _); refine starCall_ ?_))
local macro_rules | `(tactic| walk_at "getAttr ref") => `(tactic| (k_here; (with_reducible show wpAny _ _ (getAttr _ (Str.ofString "_ident") _) _ _ _); k_dflt (refine' get_sm ?k1 ?k2 ?k4 ?k5 ?k6 ?k7 ?k9 ?k10 ?k11 ?k12 ?k13 ?k14 ?_; (case k1 => k_asm); (case k2 => k_asm); (case k4 => k_inst); (case k5 => k_is); (case k6 => k_is); (case k7 => k_is); (case k9 => k_is); (case k10 => k_is); (case k11 => decide +kernel); (case k12 => k_get); (case k13 => k_is); (case k14 => k_handed); k_whole)))
local macro_rules | `(tactic| walk_at "callWith ref") => `(tactic| (k_here; (with_reducible show wpAny _ _ (callWith _ (Value.ref _) [] (backTo _ (starEach [Expr.Starred _ _] _)) []) _ _ _); k_dflt (first
  | (refine' callWith_S ?k1 ?k2 ?_; (case k1 => k_asm); (case k2 => k_is); k_whole)
  | (refine' callWith_SM ?kX ?k1 ?k2 ?k3 ?_; (case kX => assumption); (case k1 => k_asm); (case k2 => k_mem); (case k3 => k_is); k_whole)
  | (refine' callWith_SC ?k1 ?k2 ?_; (case k1 => k_inst); (case k2 => exact rfl); k_whole))))

local macro_rules | `(tactic| k_all) => `(tactic| assumption)
local macro_rules | `(tactic| k_room) => `(tactic| ktr_room)
local macro_rules | `(tactic| k_mem) => `(tactic| exact List.mem_append.mpr (.inl (by assumption)))
local macro_rules | `(tactic| walk_at "mine seg") => `(tactic| (first | (refine' SegF.here ?sgC; (case sgC => assumption)) | (refine' SegF.there ?sgA ?sgB; (case sgA => k_ne); (case sgB => walk_at "mine seg"))))
local macro_rules | `(tactic| walk_at "eval Lambda") => `(tactic| (k_here; k_dflt (refine' lam_evalT ?F ?N ?T ?C ?S ?hT ?hN ?hd ?hcl ?_; (case F => k_asm); (case N => k_asm); (case T => k_asm); (case C => kn_code); (case S => walk_at "mine seg"); (case hT => assumption); (case hN => kcj_all); (case hd => exact rfl); (case hcl => exact rfl); k_whole); intro f' c' oc' vs' t' ct' tabs' h' tk' F' N' hT' hm' d1' d2' l1 lt'; (try dsimp only at N'); (try k_lt l1)))
local macro_rules | `(tactic| walk_at "call type:map") => `(tactic| (k_here; (with_reducible show wpAny _ _ (call (Value.type "map") [_, Value.ref _]) _ _ _); k_dflt (refine' call_map_N ?k1 ?k2 ?k3 ?_; (case k1 => k_asm); (case k2 => k_asm); (case k3 => k_mem); k_whole); intro I' h' F' N' l1; (try k_lt l1)))

local macro_rules | `(tactic| walk_at "mine spec") => `(tactic| first | (refine' ident_spec ?k1 ?k2 ?k3 ?k4 ?k5 ?kK ?kd ?ku  ?_; (case k1 => k_asm); (case k2 => k_asm); (case k3 => k_asm); (case k4 => k_asm); (case k5 => k_asm); (case kK => first | exact rfl | assumption); (case kd => ktr_room); (case ku => ktr_units);  k_whole; intro h' tk' F' N') | (refine' maximum_any ?k1 ?k2 ?k3 ?k4 ?k5 ?kK ?kd ?ku ?c1 ?c2 ?c3 ?c4 ?_; (case k1 => k_asm); (case k2 => k_asm); (case k3 => k_asm); (case k4 => k_asm); (case k5 => k_asm); (case kK => first | exact rfl | assumption); (case kd => ktr_room); (case ku => ktr_units); (case c1 => assumption); (case c2 => assumption); (case c3 => (first | kcf_m | k_mem)); (case c4 => (first | kcf_m | k_mem)); k_whole; intro t' h' tk' F' N'))
local macro_rules | `(tactic| walk_at "call ref") => `(tactic| (k_here; k_dflt (first | (refine wpAny_call ?_; walk_at "mine spec") | (refine call_meth (by k_asm) (by k_mem) ?_; walk_at "mine spec")); (try dsimp only); (try k_fold)))

local macro_rules | `(tactic| walk_at "call builtin:all") => `(tactic| (k_here; k_dflt (refine' all_pair ?hh ?F ?N ?D ?hx ?hy ?_; (case hh => exact rfl); (case F => k_asm); (case N => k_asm); (case D => k_mem); (case hx => assumption); (case hy => assumption); k_whole); intro h' tk' F' N'))

theorem cast_val {R : Result → Shared → Prop} {v v' : Value} {s : Shared} (e : v = v') (h : R (.ok (.ret v)) s) : R (.ok (.ret v')) s := e ▸ h
/-- the answer without a table -/
def quick (z1 z2 : Str) (hi : Int) (t : Tok) : Value := if z1 = z2 then .int 0 t else if z1.length = 0 ∨ z2.length = 0 then .int (max (z1.length : Int) (z2.length : Int) * hi) t else .none
theorem quick_same {z1 z2 : Str} {hi : Int} {t : Tok} (h : z1 = z2) : quick z1 z2 hi t = .int 0 t := by unfold quick; rw [if_pos h]
theorem quick_none {z1 z2 : Str} {hi : Int} {t : Tok} (h : ¬ z1 = z2) (h2 : (((z1.length : Int) != 0) && ((z2.length : Int) != 0)) = true) : quick z1 z2 hi t = .none := by
  unfold quick
  rw [if_neg h, if_neg (by
    simp only [Bool.and_eq_true, bne_iff_ne, ne_eq] at h2
    omega)]
theorem quick_len {z1 z2 : Str} {hi : Int} {t : Tok} (h : ¬ z1 = z2) (h2 : (((z1.length : Int) != 0) && ((z2.length : Int) != 0)) = false) : quick z1 z2 hi t = .int (max (z1.length : Int) (z2.length : Int) * hi) t := by
  unfold quick
  rw [if_neg h, if_pos (by
    by_cases h3 : z1.length = 0
    · exact .inl h3
    · refine .inr ?_
      by_cases h4 : z2.length = 0
      · exact h4
      · have : (((z1.length : Int) != 0) && ((z2.length : Int) != 0)) = true := by
          simp only [Bool.and_eq_true, bne_iff_ne, ne_eq]; omega
        rw [this] at h2; cases h2)]

set_option maxRecDepth 100000 in
set_option maxHeartbeats 8000000 in
theorem quick_spec {w : World} {p : Program} {loose : List Str} {mean : ExcName → Option Value} {mg mb : Str → Option Value} {news : List (Addr × Obj)}
   {dp un : Nat} {gd : Option (List Code)} {cn : Str} {cs : Scope} {a : Addr} {ccd : Value} {cl : List (Str × Addr)} {outer : List Env} {A₀ : Around} {base h₀ : Heap} {L : Addr} {m : Str → Option Value} {s : Shared} {R : Result → Shared → Prop} {lo hi : Int} {k1 k2 k3 k4 k5 k6 : Int} {t1 t2 t3 t4 t5 t6 u1 u2 u3 u6 : Tok} {x dx : Addr} {z1 z2 : Str} {tx ty : Tok}
   (B : Below A₀ base outer h₀) (F : Fr h₀ L s.heap m) (X : (hd.heap_39 w.params).In h₀) (N : News h₀ L s.heap ((x, instObj 192 dx) :: (dx, edDict lo hi k1 k2 k3 k4 k5 k6 t1 t2 t3 t4 t5 t6 u1 u2 u3 u6) :: news)) (T : Top p loose mean mg mb h₀) (hck : cs.kind = .function)
   (hroom : dp + 6 < recursionLimit) (hunits : un + 96 < cLine) (hx : z1.length ≤ 64) (hy : z2.length ≤ 64)
   (hret : ∀ t h' tk', Fr h₀ L h' m → News h₀ L h' ((x, instObj 192 dx) :: (dx, edDict lo hi k1 k2 k3 k4 k5 k6 t1 t2 t3 t4 t5 t6 u1 u2 u3 u6) :: news) → R (.ok (.ret (quick z1 z2 hi t))) { s with heap := h', toks := tk' }) :
   codeAny (model PySem.Challenge.rw_br0031_01.row.prog w) (ktrTop dp un gd cn cs L a ccd cl outer) (.call (.ref 88) ⟨[.ref x, .str z1 tx, .str z2 ty], []⟩) R s := by
  w_top off
  revert X; k_fill; intro X
  (walk_at "mine enterR")
  k_steps
  · (refine' cast_val ?e0 (hret _ _ _ ?e1 ?e2); (case e0 => exact quick_same (by assumption)); (case e1 => k_asm); (case e2 => first | k_asm | (refine' cb_drop ?cbN ?cbS; (case cbN => assumption); (case cbS => kcj_all))))
  · (refine' cast_val ?e0 (hret _ _ _ ?e1 ?e2); (case e0 => exact quick_none (t := 0) (by assumption) (by assumption)); (case e1 => k_asm); (case e2 => first | k_asm | (refine' cb_drop ?cbN ?cbS; (case cbN => assumption); (case cbS => kcj_all))))
  · (refine' cast_val ?e0 (hret _ _ _ ?e1 ?e2); (case e0 => exact quick_len (by assumption) (by assumption)); (case e1 => k_asm); (case e2 => first | k_asm | (refine' cb_drop ?cbN ?cbS; (case cbN => assumption); (case cbS => kcj_all))))

theorem quick_any {w : World} {p : Program} {loose : List Str} {mean : ExcName → Option Value} {mg mb : Str → Option Value} 
   {dp un : Nat} {gd : Option (List Code)} {cn : Str} {cs : Scope} {a : Addr} {ccd : Value} {cl : List (Str × Addr)} {outer : List Env} {A₀ : Around} {base h₀ : Heap} {L : Addr} {m : Str → Option Value} {s : Shared} {R : Result → Shared → Prop} {lo hi : Int} {k1 k2 k3 k4 k5 k6 : Int} {t1 t2 t3 t4 t5 t6 u1 u2 u3 u6 : Tok} {x dx : Addr} {z1 z2 : Str} {tx ty : Tok} {led : List (Addr × Obj)}
   (B : Below A₀ base outer h₀) (F : Fr h₀ L s.heap m) (X : (hd.heap_39 w.params).In h₀) (N : News h₀ L s.heap led) (T : Top p loose mean mg mb h₀) (hck : cs.kind = .function)
   (hroom : dp + 6 < recursionLimit) (hunits : un + 96 < cLine) (hx : z1.length ≤ 64) (hy : z2.length ≤ 64)
   (mi : (x, instObj 192 dx) ∈ led) (md : (dx, edDict lo hi k1 k2 k3 k4 k5 k6 t1 t2 t3 t4 t5 t6 u1 u2 u3 u6) ∈ led)
   (hret : ∀ t h' tk', Fr h₀ L h' m → News h₀ L h' (led) → R (.ok (.ret (quick z1 z2 hi t))) { s with heap := h', toks := tk' }) :
   codeAny (model PySem.Challenge.rw_br0031_01.row.prog w) (ktrTop dp un gd cn cs L a ccd cl outer) (.call (.ref 88) ⟨[.ref x, .str z1 tx, .str z2 ty], []⟩) R s :=
  quick_spec (x := x) (dx := dx) (lo := lo) (hi := hi) (k1 := k1) (k2 := k2) (k3 := k3) (k4 := k4) (k5 := k5) (k6 := k6) (t1 := t1) (t2 := t2) (t3 := t3) (t4 := t4) (t5 := t5) (t6 := t6) (u1 := u1) (u2 := u2) (u3 := u3) (u6 := u6) (news := led) B F X (fun p hp => N p (by
    rcases List.mem_cons.mp hp with rfl | hp
    · exact mi
    · rcases List.mem_cons.mp hp with rfl | hp
      · exact md
      · exact hp)) T hck hroom hunits hx hy fun t h' tk' F' N' => hret t h' tk' F' fun p hp => N' p (.tail _ (.tail _ hp))

theorem quick_any3 {w : World} {p : Program} {loose : List Str} {mean : ExcName → Option Value} {mg mb : Str → Option Value} 
   {dp un : Nat} {gd : Option (List Code)} {cn : Str} {cs : Scope} {a : Addr} {ccd : Value} {cl : List (Str × Addr)} {outer : List Env} {A₀ : Around} {base h₀ : Heap} {L : Addr} {m : Str → Option Value} {s : Shared} {R : Result → Shared → Prop} {lo hi : Int} {k1 k2 k3 k4 k5 k6 : Int} {t1 t2 t3 t4 t5 t6 u1 u2 u3 u6 : Tok} {x dx : Addr} {z1 z2 : Str} {tx ty : Tok} {led : List (Addr × Obj)}
   (B : Below A₀ base outer h₀) (F : Fr h₀ L s.heap m) (X : (hd.heap_39 w.params).In h₀) (N : News h₀ L s.heap led) (T : Top p loose mean mg mb h₀) (hck : cs.kind = .function)
   (hroom : dp + 6 < recursionLimit) (hunits : un + 96 < cLine) (hx : z1.length ≤ 64) (hy : z2.length ≤ 64)
   (mi : (x, instObj 192 dx) ∈ led) (md : (dx, edDict lo hi k1 k2 k3 k4 k5 k6 t1 t2 t3 t4 t5 t6 u1 u2 u3 u6) ∈ led)
   (hret : (∀ (t : Tok) h' tk', z1 = z2 → Fr h₀ L h' m → News h₀ L h' led → R (.ok (.ret (.int 0 t))) { s with heap := h', toks := tk' }) ∧ (∀ (t : Tok) h' tk', (¬ z1 = z2 ∧ (z1.length = 0 ∨ z2.length = 0)) → Fr h₀ L h' m → News h₀ L h' led → R (.ok (.ret (.int (max (z1.length : Int) (z2.length : Int) * hi) t))) { s with heap := h', toks := tk' }) ∧ (∀ (t : Tok) h' tk', (¬ z1 = z2 ∧ 1 ≤ z1.length ∧ 1 ≤ z2.length) → Fr h₀ L h' m → News h₀ L h' led → R (.ok (.ret (.none))) { s with heap := h', toks := tk' })) :
   codeAny (model PySem.Challenge.rw_br0031_01.row.prog w) (ktrTop dp un gd cn cs L a ccd cl outer) (.call (.ref 88) ⟨[.ref x, .str z1 tx, .str z2 ty], []⟩) R s := by
  refine quick_any B F X N T hck hroom hunits hx hy mi md fun t h' tk' F' N' => ?_
  obtain ⟨h1, h2, h3⟩ := hret
  unfold quick
  by_cases c : z1 = z2
  · rw [if_pos c]; exact h1 t h' tk' c F' N'
  · rw [if_neg c]
    by_cases c2 : z1.length = 0 ∨ z2.length = 0
    · rw [if_pos c2]; exact h2 t h' tk' ⟨c, c2⟩ F' N'
    · rw [if_neg c2]; exact h3 t h' tk' ⟨c, by omega, by omega⟩ F' N'
end Mine

-- MText
namespace Mine
open PySem PySem.W PySem.Calls PyProof.Rows PySem.Spec
set_option maxRecDepth 100000
theorem item_get {x : Str} {i c : Nat} (h : x.cps[i]? = some c) : Txt.item x (i : Int) = ⟨#[c]⟩ := by
  have hl : i < x.cps.size := (Array.getElem?_eq_some_iff.mp h).1
  have hx : Txt.charAt x (i : Int) = some c := by
    unfold Txt.charAt seqIndex?
    have e1 : ¬ ((i : Int) < 0) := by omega
    have e3 : (i : Int) < (x.length : Int) := by show (i : Int) < (x.cps.size : Int); omega
    have e2 : (decide (0 ≤ (i : Int)) && decide ((i : Int) < (x.length : Int))) = true := by simp [e3]
    dsimp only
    rw [if_neg e1, if_pos e2]
    simpa using h
  unfold Txt.item; rw [hx]; rfl
theorem range_get {α : Type} (l : List α) (s : Nat) : ∀ m : Nat, (List.range m).filterMap (fun k => l[k + s]?) = (l.drop s).take m
  | 0 => rfl
  | m + 1 => by
    rw [List.range_succ, List.filterMap_append, range_get l s m, List.take_add_one, List.getElem?_drop]
    congr 1
    rw [Nat.add_comm s m]
    show (match l[m + s]? with | none => List.filterMap _ [] | some b => b :: List.filterMap _ []) = _
    cases l[m + s]? <;> rfl
theorem slice1 (x : Str) (h : 1 ≤ x.length) : (Txt.slice x (some 1) none).cps = (x.cps.toList.drop 1).toArray := by
  have hl : x.length = x.cps.size := rfl
  have e : Builtin.Str.strSliceIndices (some 1) none 1 x.length = (List.range (x.length - 1)).map (· + 1) := by
    unfold Builtin.Str.strSliceIndices sliceRange
    have e1 : max 0 (min (1 : Int) (x.length : Int)) = 1 := by omega
    simp only [show ((1 : Int) > 0) by decide, if_true, show ¬ ((1 : Int) < 0) by decide, if_false, e1]
    split
    · have e2 : (((x.length : Int) - 1 + 1 - 1) / 1).toNat = x.length - 1 := by rw [Int.ediv_one]; omega
      rw [e2]
      refine List.map_congr_left fun k _ => ?_
      omega
    · have : x.length - 1 = 0 := by omega
      rw [this]; rfl
  unfold Txt.slice
  rw [e]
  rw [if_neg (by simp; omega)]
  show (List.filterMap _ _).toArray = _
  congr 1
  rw [List.filterMap_map]
  have e3 := range_get x.cps.toList 1 (x.length - 1)
  rw [List.take_of_length_le (by simp; omega)] at e3
  rw [← e3]
  have e4 : ((fun (k : Nat) => x.cps[k]?) ∘ fun x => x + 1) = fun k => x.cps.toList[k + 1]? := by funext k; simp
  rw [e4]
theorem slice1_size (x : Str) (h : 1 ≤ x.length) : x.cps.size = (Txt.slice x (some 1) none).cps.size + 1 := by
  have hl : x.length = x.cps.size := rfl
  rw [slice1 x h]; simp; omega
theorem slice1_get (x : Str) (h : 1 ≤ x.length) (i : Nat) : (Txt.slice x (some 1) none).cps[i]? = x.cps[i + 1]? := by
  rw [slice1 x h]; simp [Nat.add_comm]
theorem slice1_len (x : Str) (h : 1 ≤ x.length) : (Txt.slice x (some 1) none).cps.size = x.length - 1 := by
  have := slice1_size x h
  have hl : x.length = x.cps.size := rfl
  omega
end Mine

-- MEnumA
namespace Mine
open PySem PySem.W PySem.Calls PyProof.Rows PySem.Spec
set_option maxRecDepth 100000
section
variable {prog : Program} {w : World} {A : Around} {E : Value → Shared → Prop} {s : Shared}
theorem weightK (T : String) (args : List Value) (kw : List (Str × Value)) : (Code.builtin "type.__call__" ⟨.type T :: args, kw⟩).weight = 0 := rfl
theorem unitsK (T : String) (args : List Value) (kw : List (Str × Value)) : (Code.builtin "type.__call__" ⟨.type T :: args, kw⟩).cUnits = 1 := rfl
/-- `T(args, kw)`, T a built-in type with a __new__ of its own -/
theorem callTypeK {T newId : String} {Bn : Builtin} {args : List Value} {kw : List (Str × Value)} {S : PySem.Spec} {Q : Value → Shared → Prop} (ft : TypeCalled T newId "object.__init__")
    (hne : (some newId != some "object.__new__") = true) (hct : checkTypeCall T ⟨args, kw⟩ = pure ()) (hcn : checkBuiltinCall newId ⟨.type T :: args, kw⟩ = pure ())
    (hok : ∀ obj, argsOk "object.__init__" ⟨obj :: args, kw⟩) (entryN : entryFor table newId = some Bn) (g : Meets (Bn ⟨.type T :: args, kw⟩) S)
    (hinit : ∀ obj, Meets (Builtin.«object.__init__» ⟨obj :: args, kw⟩) (fun _ R s => s.TypeIs obj T ∧ R (.ok (.ret .none)) s))
    (h : S A.in1 (wants (fun obj s₁ => s₁.TypeIs obj T ∧ Q obj s₁) E) s) : wpAny (model prog w) A (call (.type T) args kw) Q E s := by
  obtain ⟨c, tl, hmro⟩ := ft.mro
  have hmade := ft.made
  have hsub := ft.sub
  refine wpAny_call (codeAny_of_tree ?_)
  show wpAny _ _ (callAny (.type T) _) _ _ _
  refine wpAny_pure ⟨Code.quiet_builtin _ (by decide +kernel), codeAny_builtin F.entry_type_call ?_⟩
  rw [Around.under_plain (weightK T args kw) (unitsK T args kw)]
  have h1 := ft.notType
  have h2 := ft.canCreate
  repeat (any_goals (first | assumption | wp_step))
  refine codeAny_mono (codeAny_call_builtin ft.plain entryN (wpAny_of_eq hcn (g prog w A.in1 _ s h))) fun r s₁ hr => ?_
  cases r with
  | error e => exact hr
  | ok fl =>
    cases fl with
    | ret obj =>
      obtain ⟨hT, hq⟩ := hr
      have hli := ft.init.lookup
      have hbi := ft.init.bind obj
      repeat (any_goals (first | assumption | wp_step))
      refine codeAny_mono (codeAny_call_builtin ft.init.plain F.entry_object_init (ft.init.check _ _ _ _ _ _ _ _ hT (hok obj) (hinit obj prog w A.in1 (wants (fun r s₂ => r = .none ∧ Q obj s₂) E) s₁ ⟨hT, rfl, hq⟩))) fun r₂ s₂ hr₂ => ?_
      cases r₂ with
      | error e => exact hr₂
      | ok fl₂ =>
        cases fl₂ with
        | ret r =>
          obtain ⟨rfl, hq⟩ := hr₂
          repeat (any_goals (first | assumption | wp_step))
        | _ => exact hr₂.elim
    | _ => exact hr.elim
abbrev zs1 (h : Heap) (x : Str) (t : Tok) : Heap := h.push { cls := .type (strIterType x), data := .fields #[.str x t, .int 0 0] }
abbrev zs2 (h : Heap) (x : Str) (t : Tok) (y : Str) (u : Tok) : Heap := (zs1 h x t).push { cls := .type (strIterType y), data := .fields #[.str y u, .int 0 0] }
abbrev zs3 (h : Heap) (x : Str) (t : Tok) (y : Str) (u : Tok) : Heap := (zs2 h x t y u).push { cls := .type "tuple", data := .seq #[.ref h.objs.size, .ref (zs1 h x t).objs.size] }
abbrev zs4 (h : Heap) (x : Str) (t : Tok) (y : Str) (u : Tok) : Heap := (zs3 h x t y u).push { cls := .type "tuple", data := .seq #[.none, .none] }
abbrev zs5 (h : Heap) (x : Str) (t : Tok) (y : Str) (u : Tok) : Heap := (zs4 h x t y u).push { cls := .type "zip", data := .fields #[.none, .bool false, .bool false, .ref (zs2 h x t y u).objs.size, .ref (zs3 h x t y u).objs.size] }
set_option maxHeartbeats 4000000 in
theorem zip_newS (x : Str) (t : Tok) (y : Str) (u : Tok) :
    Meets (Builtin.«zip.__new__» ⟨[.type "zip", .str x t, .str y u], []⟩) (fun _ R s =>
      R (.ok (.ret (.ref (zs4 s.heap x t y u).objs.size))) { s with heap := zs5 s.heap x t y u }) :=
  .of_wp fun prog w A R s h => by
    obtain ⟨hp, g, d, tk, os⟩ := s
    have hsub := sub_zip
    wp_walk using wpAny_pyIter_strU
    exact ⟨_, rfl, h⟩
theorem call_zip_strs {x y : Str} {t u : Tok} {Q : Value → Shared → Prop}
    (h : ∀ h', IsZip h' (s.heap.objs.size + 4) (s.heap.objs.size + 2) (s.heap.objs.size + 3) .none → IsPair h' (s.heap.objs.size + 2) (.ref s.heap.objs.size) (.ref (s.heap.objs.size + 1)) →
      IsPair h' (s.heap.objs.size + 3) .none .none → h'.IsStrIter s.heap.objs.size (strIterType x) x t 0 → h'.IsStrIter (s.heap.objs.size + 1) (strIterType y) y u 0 → h'.objs.size = s.heap.objs.size + 5 →
      (∀ c o, s.heap.get? c = some o → h'.get? c = some o) → Q (.ref (s.heap.objs.size + 4)) { s with heap := h' }) :
    wpAny (model prog w) A (call (.type "zip") [.str x t, .str y u]) Q E s := by
  refine callType_new F.called_zip (by decide) (F.typeCall_zip_2 _ _) (F.newCall_zip_2 _ _) (fun obj => F.args_object_init_3 obj _ _) F.entry_zip_new
    (zip_newS x t y u) ?_
  have z1 : (zs1 s.heap x t).objs.size = s.heap.objs.size + 1 := Heap.size_push ..
  have z2 : (zs2 s.heap x t y u).objs.size = s.heap.objs.size + 2 := by rw [Heap.size_push, z1]
  have z3 : (zs3 s.heap x t y u).objs.size = s.heap.objs.size + 3 := by rw [Heap.size_push, z2]
  have z4 : (zs4 s.heap x t y u).objs.size = s.heap.objs.size + 4 := by rw [Heap.size_push, z3]
  have z5 : (zs5 s.heap x t y u).objs.size = s.heap.objs.size + 5 := by rw [Heap.size_push, z4]
  have g5 : (zs5 s.heap x t y u).get? (zs4 s.heap x t y u).objs.size = some _ := Heap.get?_push_size _ rfl
  have g4 : (zs5 s.heap x t y u).get? (zs3 s.heap x t y u).objs.size = some _ := Heap.get?_push_of_some _ (Heap.get?_push_size _ rfl)
  have g3 : (zs5 s.heap x t y u).get? (zs2 s.heap x t y u).objs.size = some _ := Heap.get?_push_of_some _ (Heap.get?_push_of_some _ (Heap.get?_push_size _ rfl))
  have g2 : (zs5 s.heap x t y u).get? (zs1 s.heap x t).objs.size = some _ := Heap.get?_push_of_some _ (Heap.get?_push_of_some _ (Heap.get?_push_of_some _ (Heap.get?_push_size _ rfl)))
  have g1 : (zs5 s.heap x t y u).get? s.heap.objs.size = some _ := Heap.get?_push_of_some _ (Heap.get?_push_of_some _ (Heap.get?_push_of_some _ (Heap.get?_push_of_some _ (Heap.get?_push_size _ rfl))))
  show _ ∧ _
  rw [z2, z3, z4] at g5
  rw [z1, z2] at g3
  rw [z3] at g4
  rw [z1] at g2
  rw [z4]
  exact ⟨⟨_, g5, rfl⟩, h _ g5 g3 g4 ⟨_, g1, rfl, rfl⟩ ⟨_, g2, rfl, rfl⟩ z5 fun c o e =>
    Heap.get?_push_of_some _ (Heap.get?_push_of_some _ (Heap.get?_push_of_some _ (Heap.get?_push_of_some _ (Heap.get?_push_of_some _ e))))⟩
set_option maxHeartbeats 4000000 in
/-- enumerate's object that counts from 1 -/
theorem enum_newZ (z : Addr) (t : Tok) :
    Meets (Builtin.«enumerate.__new__» ⟨[.type "enumerate", .ref z], [(Str.ofString "start", .int 1 t)]⟩) (fun _ R s => (∃ TI TO f0, IsZip s.heap z TI TO f0) ∧
      R (.ok (.ret (.ref s.heap.objs.size))) { s with heap := s.heap.push { cls := .type "enumerate", data := .fields #[.none, .bool false, .ref z, rawInt 1, .none, .none] } }) :=
  .of_wp fun prog w A R s h => by
    obtain ⟨hp, g, d, tk, os⟩ := s
    obtain ⟨⟨TI, TO, f0, hz⟩, h⟩ := h
    have hsub := sub_enumerate
    have hZ : ∀ (A : Around) (E : Value → Shared → Prop) (Q : Value → Shared → Prop), Q (.ref z) ⟨hp, g, d, tk, os⟩ → wpAny (model prog w) A (pyIter (.ref z)) Q E ⟨hp, g, d, tk, os⟩ := fun A E Q q => wpAny_pyIter_zip hz q
    wp_walk
    refine wpAny_stack_any fun st => wpAny_pure ?_
    split
    · rename_i c _ _ _ _ _
      cases (c == Value.type "enumerate")
      · wp_walk using hZ
        trace_state
        exact ⟨_, rfl, h⟩
      · wp_walk using hZ
        exact ⟨_, rfl, h⟩
    · wp_walk using hZ
      exact ⟨_, rfl, h⟩
end
end Mine

-- MEnumB
namespace Mine
open PySem PySem.W PySem.Calls PyProof.Rows PySem.Spec
set_option maxRecDepth 100000
section
variable {prog : Program} {w : World} {A : Around} {E : Value → Shared → Prop} {s : Shared}
theorem typeCall_enumK (a : Value) (t : Tok) : checkTypeCall "enumerate" ⟨[a], [(Str.ofString "start", .int 1 t)]⟩ = pure () := by kernel_rfl
theorem newCall_enumK (a : Value) (t : Tok) : checkBuiltinCall "enumerate.__new__" ⟨[.type "enumerate", a], [(Str.ofString "start", .int 1 t)]⟩ = pure () := by kernel_rfl
theorem args_initK (a b : Value) (t : Tok) : argsOk "object.__init__" ⟨[a, b], [(Str.ofString "start", .int 1 t)]⟩ := by
  unfold argsOk; rw [signature?_of (id := "object.__init__") (n := ['_', '_', 't', 'i', 'n', 'i', '_', '_']) (o := ['t', 'c', 'e', 'j', 'b', 'o']) (by kernel_rfl) F.owner_object]; kernel_rfl
theorem init_enumK (self a : Value) (t : Tok) :
    Meets (Builtin.«object.__init__» ⟨[self, a], [(Str.ofString "start", .int 1 t)]⟩) (fun _ R s => s.TypeIs self "enumerate" ∧ R (.ok (.ret .none)) s) := by
  refine Meets.of_wp fun prog w A R s hs => ?_
  obtain ⟨hT, hq⟩ := hs
  have hl := F.called_enumerate.init.lookup
  have hm := F.called_enumerate.made
  have hne : (some "enumerate.__new__" != some "object.__new__") = true := by decide
  repeat (any_goals (first | assumption | wp_step))
  exact ⟨_, rfl, hq⟩
theorem call_enum_zip {z : Addr} {t : Tok} {Q : Value → Shared → Prop} (hz : ∃ TI TO f0, IsZip s.heap z TI TO f0)
    (h : Q (.ref s.heap.objs.size) { s with heap := s.heap.push { cls := .type "enumerate", data := .fields #[.none, .bool false, .ref z, rawInt 1, .none, .none] } }) :
    wpAny (model prog w) A (call (.type "enumerate") [.ref z] [(Str.ofString "start", .int 1 t)]) Q E s := by
  refine callTypeK F.called_enumerate (by decide) (typeCall_enumK _ _) (newCall_enumK _ _) (fun obj => args_initK obj _ _) F.entry_enumerate_new (enum_newZ z t) (fun obj => init_enumK obj _ _) ⟨hz, ?_⟩
  exact ⟨⟨_, Heap.get?_push_size _ rfl, rfl⟩, h⟩
theorem alive {a : Addr} {Q : Option Obj → Shared → Prop} (h : Q (s.heap.get? a) s) : wpAny (model prog w) A (loadIfAlive a) Q E s := fun _ _ _ => h
theorem strIter_cases (x : Str) : strIterType x = "str_ascii_iterator" ∨ strIterType x = "str_iterator" := by
  unfold strIterType; split
  · exact .inl rfl
  · exact .inr rfl
theorem nextStr_item {it : Addr} {x : Str} {t : Tok} {i c : Nat} {Q : Value → Shared → Prop} (hit : s.heap.IsStrIter it (strIterType x) x t i) (hx : x.cps[i]? = some c)
    (hQ : ∀ h', h'.IsStrIter it (strIterType x) x t (i + 1) → Heap.SameBut it s.heap h' → Q (.str ⟨#[c]⟩ s.toks) { s with heap := h', toks := s.toks + 1 }) :
    wpAny (model prog w) A (Builtin.SmallTypes.nextOf (.ref it)) Q E s := by
  rcases strIter_cases x with e | e
  · rw [e] at hit hQ; exact wpAny_nextOf_ascii_item hit hx hQ
  · rw [e] at hit hQ; exact wpAny_nextOf_wide_item hit hx hQ
theorem nextStr_end {it : Addr} {x : Str} {t : Tok} {i : Nat} {Q : Value → Shared → Prop} (hh : A.handled = none)
    (hit : s.heap.IsStrIter it (strIterType x) x t i) (hx : x.cps[i]? = none)
    (hE : ∀ h' e, Heap.ExtBut it s.heap h' → (∃ o, h'.get? e = some o ∧ o.cls = .type "StopIteration") → E (.ref e) { s with heap := h' }) :
    wpAny (model prog w) A (Builtin.SmallTypes.nextOf (.ref it)) Q E s := by
  rcases strIter_cases x with e | e
  · rw [e] at hit; exact wpAny_nextOf_ascii_end hh hit hx hE
  · rw [e] at hit; exact wpAny_nextOf_wide_end hh hit hx hE
structure ZApart (z TI TO i1 i2 : Addr) : Prop where
  TIz : TI ≠ z
  TOz : TO ≠ z
  i1z : i1 ≠ z
  i2z : i2 ≠ z
  TITO : TI ≠ TO
  TIi1 : TI ≠ i1
  TIi2 : TI ≠ i2
  TOi1 : TO ≠ i1
  TOi2 : TO ≠ i2
  i12 : i1 ≠ i2
abbrev ZAt (h : Heap) (z TI TO : Addr) (f0 f1 : Value) : Prop :=
  h.get? z = some { cls := .type "zip", dict := none, data := .fields #[f0, f1, .bool false, .ref TI, .ref TO], slots := #[] }
/-- the zip's state -/
def ZS (x y : Str) (t u : Tok) (z TI TO i1 i2 : Addr) (i : Nat) (h : Heap) : Prop :=
  (∃ f0 f1, ZAt h z TI TO f0 (.bool f1) ∧ (f0 = .none ∨ ∃ T : Addr, f0 = rawInt T)) ∧ IsPair h TI (.ref i1) (.ref i2) ∧ (∃ a b, IsPair h TO a b) ∧ h.IsStrIter i1 (strIterType x) x t i ∧ h.IsStrIter i2 (strIterType y) y u i
theorem ZS.keep {x y : Str} {t u : Tok} {z TI TO i1 i2 : Addr} {i : Nat} {h h' : Heap} (st : ZS x y t u z TI TO i1 i2 i h) (k : ∀ b o, b = z ∨ b = TI ∨ b = TO ∨ b = i1 ∨ b = i2 → h.get? b = some o → h'.get? b = some o) : ZS x y t u z TI TO i1 i2 i h' := by
  obtain ⟨⟨f0, f1, hz, hf⟩, hTI, ⟨a, b, hTO⟩, ⟨o1, e1, r1⟩, ⟨o2, e2, r2⟩⟩ := st
  exact ⟨⟨f0, f1, k _ _ (by simp) hz, hf⟩, k _ _ (by simp) hTI, ⟨a, b, k _ _ (by simp) hTO⟩, ⟨o1, k _ _ (by simp) e1, r1⟩, ⟨o2, k _ _ (by simp) e2, r2⟩⟩
def ZKeep (z TO i1 i2 : Addr) (h h' : Heap) : Prop := ∀ c o, c ≠ z → c ≠ TO → c ≠ i1 → c ≠ i2 → h.get? c = some o → h'.get? c = some o
def ZEnd (z TO i1 i2 : Addr) (E : Value → Shared → Prop) (s : Shared) : Prop := ∀ h' e tk, ZKeep z TO i1 i2 s.heap h' → (∃ o, h'.get? e = some o ∧ o.cls = .type "StopIteration") → E (.ref e) { s with heap := h', toks := tk }
def ZItem (x y : Str) (t u : Tok) (z TI TO i1 i2 : Addr) (i c1 c2 : Nat) (Q : Value → Shared → Prop) (s : Shared) : Prop :=
  ∀ h' R v1 v2 tk, ZS x y t u z TI TO i1 i2 (i + 1) h' → IsPair h' R (.str ⟨#[c1]⟩ v1) (.str ⟨#[c2]⟩ v2) → s.heap.objs.size ≤ R → ZKeep z TO i1 i2 s.heap h' → Q (.ref R) { s with heap := h', toks := tk }
theorem isFree {z TI TO : Addr} {f0 : Value} {f1 : Bool} {Q : Bool → Shared → Prop} (hz : ZAt s.heap z TI TO f0 (.bool f1)) (hf : f0 = .none ∨ ∃ T : Addr, f0 = rawInt T)
    (hy : Q true s) (hn : ∀ h', ZAt h' z TI TO f0 (.bool true) → Heap.SameBut z s.heap h' → Q false { s with heap := h' }) :
    wpAny (model prog w) A (Builtin.SmallTypes.ownedTupleIsFree (.ref z)) Q E s := by
  unfold Builtin.SmallTypes.ownedTupleIsFree
  refine wpAny_bind (wpAny_field hz rfl (x := f0) rfl ?_)
  rcases hf with rfl | ⟨T, rfl⟩
  · exact wpAny_pure hy
  · show wpAny _ _ (loadIfAlive _ >>= _) _ _ _
    refine wpAny_bind (alive ?_)
    cases s.heap.get? (Int.toNat (T : Int)) with
    | none => exact wpAny_pure hy
    | some o =>
      show wpAny _ _ (field (.ref z) 1 >>= _) _ _ _
      refine wpAny_bind (wpAny_field hz rfl (x := .bool f1) rfl ?_)
      cases f1 with
      | true =>
        show wpAny _ _ (pure _) _ _ _
        exact wpAny_pure (hn _ hz (Heap.SameBut.refl ..))
      | false =>
        show wpAny _ _ (setField (.ref z) 1 (.bool true) >>= _) _ _ _
        refine wpAny_bind (wpAny_setField_rec hz (by simp) fun h' hz' hs' => ?_)
        show wpAny _ _ (pure _) _ _ _
        exact wpAny_pure (hn h' hz' hs')
theorem zip_draw {x y : Str} {t u : Tok} {z TI TO i1 i2 : Addr} {i c1 c2 : Nat} {f0 : Value} {f1 : Bool} {Q : Value → Shared → Prop} (D : ZApart z TI TO i1 i2)
    (hz : ZAt s.heap z TI TO f0 (.bool f1)) (hf : f0 = .none ∨ ∃ T : Addr, f0 = rawInt T) (hTI : IsPair s.heap TI (.ref i1) (.ref i2)) (hTO : ∃ a b, IsPair s.heap TO a b) (h1 : s.heap.IsStrIter i1 (strIterType x) x t i) (h2 : s.heap.IsStrIter i2 (strIterType y) y u i)
    (hx : x.cps[i]? = some c1) (hy : y.cps[i]? = some c2) (hQ : ZItem x y t u z TI TO i1 i2 i c1 c2 Q s) :
    wpAny (model prog w) A (Builtin.«zip.__next__» ⟨[.ref z], []⟩) (fun fin s' => ∃ v, fin = .done (.ret v) ∧ Q v s') E s := by
  obtain ⟨a, b, hTO⟩ := hTO
  show wpAny _ _ (field (.ref z) 2 >>= _) _ _ _
  refine wpAny_bind (wpAny_field hz rfl (x := .bool false) rfl ?_)
  show wpAny _ _ (field (.ref z) 3 >>= _) _ _ _
  refine wpAny_bind (wpAny_field hz rfl (x := .ref TI) rfl ?_)
  refine wpAny_bind (wpAny_seqItems hTI rfl ?_)
  show wpAny _ _ (Builtin.SmallTypes.ownedTupleIsFree (.ref z) >>= _) _ _ _
  have D' := D
  refine wpAny_bind (isFree hz hf ?_ fun h₁ hz₁ hs₁ => ?_)
  · simp only [if_true]
    refine wpAny_bind (wpAny_rule ?_)
    refine wpAny_bind (wpAny_field hz rfl (x := .ref TO) rfl ?_)
    refine wpAny_bind (wpAny_setField_rec hz (by simp) fun h₁ hz₁ hs₁ => ?_)
    replace hz₁ : ZAt h₁ z TI TO .ellipsis (.bool f1) := hz₁
    replace hs₁ : Heap.SameBut z s.heap h₁ := hs₁
    refine wpAny_bind ?_
    simp only [List.zipIdx_cons, List.zipIdx_nil, List.forIn_cons, List.forIn_nil]
    refine wpAny_bind (wpAny_bind (wpAny_onRaise ?_))
    show wpAny _ _ (Builtin.SmallTypes.nextOf (.ref i1) >>= _) _ _ _
    refine wpAny_bind (nextStr_item (h1.extBut hs₁.extBut D.i1z) hx fun h₂ h1₂ hs₂ => wpAny_pure ?_)
    replace hs₂ : Heap.SameBut i1 h₁ h₂ := hs₂
    have hTO₂ : IsPair h₂ TO a b := hs₂.extBut _ _ D.TOi1 (hs₁.extBut _ _ D.TOz hTO)
    refine wpAny_bind (wpAny_seqItems hTO₂ rfl ?_)
    refine wpAny_bind (wpAny_updateSeq_pair hTO₂ fun h₃ hTO₃ hs₃ => ?_)
    replace hs₃ : Heap.SameBut TO h₂ h₃ := hs₃
    replace hTO₃ : IsPair h₃ TO (.str ⟨#[c1]⟩ s.toks) b := hTO₃
    refine wpAny_bind (wpAny_letGo (wpAny_pure ?_))
    refine wpAny_bind (wpAny_bind (wpAny_onRaise ?_))
    show wpAny _ _ (Builtin.SmallTypes.nextOf (.ref i2) >>= _) _ _ _
    refine wpAny_bind (nextStr_item (((h2.extBut hs₁.extBut D.i2z).extBut hs₂.extBut D.i12.symm).extBut hs₃.extBut D.TOi2.symm) hy fun h₄ h2₄ hs₄ => wpAny_pure ?_)
    replace hs₄ : Heap.SameBut i2 h₃ h₄ := hs₄
    have hTO₄ : IsPair h₄ TO (.str ⟨#[c1]⟩ s.toks) b := hs₄.extBut _ _ D.TOi2 hTO₃
    refine wpAny_bind (wpAny_seqItems hTO₄ rfl ?_)
    refine wpAny_bind (wpAny_updateSeq_pair hTO₄ fun h₅ hTO₅ hs₅ => ?_)
    replace hs₅ : Heap.SameBut TO h₄ h₅ := hs₅
    replace hTO₅ : IsPair h₅ TO (.str ⟨#[c1]⟩ s.toks) (.str ⟨#[c2]⟩ (s.toks + 1)) := hTO₅
    refine wpAny_bind (wpAny_letGo (wpAny_pure (wpAny_pure ?_)))
    refine wpAny_bind (wpAny_seqItems hTO₅ rfl ?_)
    refine wpAny_bind (wpAny_newTuple ?_)
    have hsz : h₅.objs.size = s.heap.objs.size := by rw [hs₅.1, hs₄.1, hs₃.1, hs₂.1, hs₁.1]
    have hz₅ : ZAt h₅ z TI TO .ellipsis (.bool f1) := hs₅.extBut _ _ D.TOz.symm (hs₄.extBut _ _ D.i2z.symm (hs₃.extBut _ _ D.TOz.symm (hs₂.extBut _ _ D.i1z.symm hz₁)))
    have hk₅ : ZKeep z TO i1 i2 s.heap h₅ := fun c o c1 c2 c3 c4 e =>
      hs₅.extBut _ _ c2 (hs₄.extBut _ _ c4 (hs₃.extBut _ _ c2 (hs₂.extBut _ _ c3 (hs₁.extBut _ _ c1 e))))
    have h1₅ : h₅.IsStrIter i1 (strIterType x) x t (i + 1) := ((h1₂.extBut hs₃.extBut D.TOi1.symm).extBut hs₄.extBut D.i12).extBut hs₅.extBut D.TOi1.symm
    have h2₅ : h₅.IsStrIter i2 (strIterType y) y u (i + 1) := h2₄.extBut hs₅.extBut D.TOi2.symm
    have hzlt : z < h₅.objs.size := Heap.lt_size hz₅
    show wpAny _ _ (Builtin.SmallTypes.ownedTupleHandOut (.ref z) (.ref h₅.objs.size) >>= _) _ _ _
    refine wpAny_bind ?_
    unfold Builtin.SmallTypes.ownedTupleHandOut
    have hz₆ : ZAt (h₅.push { cls := .type "tuple", data := .seq #[.str ⟨#[c1]⟩ s.toks, .str ⟨#[c2]⟩ (s.toks + 1)] }) z TI TO .ellipsis (.bool f1) := Heap.get?_push_of_some _ hz₅
    refine wpAny_bind (wpAny_setField_rec hz₆ (by simp) fun h₇ hz₇ hs₇ => ?_)
    replace hz₇ : ZAt h₇ z TI TO (rawInt h₅.objs.size) (.bool f1) := hz₇
    refine wpAny_setField_rec hz₇ (by simp) fun h₈ hz₈ hs₈ => ?_
    replace hz₈ : ZAt h₈ z TI TO (rawInt h₅.objs.size) (.bool false) := hz₈
    have up : ∀ c o, c ≠ z → h₅.get? c = some o → h₈.get? c = some o := fun c o c1 e => hs₈.extBut _ _ c1 (hs₇.extBut _ _ c1 (Heap.get?_push_of_some _ e))
    have hT₈ : IsPair h₈ h₅.objs.size (.str ⟨#[c1]⟩ s.toks) (.str ⟨#[c2]⟩ (s.toks + 1)) := hs₈.extBut _ _ (Nat.ne_of_gt hzlt) (hs₇.extBut _ _ (Nat.ne_of_gt hzlt) (Heap.get?_push_size _ rfl))
    refine wpAny_pure ⟨_, rfl, ?_⟩
    refine hQ h₈ h₅.objs.size _ _ _ ⟨⟨_, _, hz₈, .inr ⟨_, rfl⟩⟩, up _ _ D.TIz (hk₅ _ _ D.TIz D.TITO D.TIi1 D.TIi2 hTI), ⟨_, _, up _ _ D.TOz hTO₅⟩, ?_, ?_⟩ hT₈ (Nat.le_of_eq hsz.symm) fun c o c1 c2 c3 c4 e => up c o c1 (hk₅ c o c1 c2 c3 c4 e)
    · obtain ⟨o, ho, r⟩ := h1₅; exact ⟨o, up _ _ D.i1z ho, r⟩
    · obtain ⟨o, ho, r⟩ := h2₅; exact ⟨o, up _ _ D.i2z ho, r⟩
  · simp only [Bool.false_eq_true, if_false]
    replace hs₁ : Heap.SameBut z s.heap h₁ := hs₁
    refine wpAny_bind ?_
    rw [List.forIn_toArray]
    simp only [List.forIn_cons, List.forIn_nil]
    refine wpAny_bind (wpAny_bind (wpAny_holding ?_))
    show wpAny _ _ (Builtin.SmallTypes.nextOf (.ref i1) >>= _) _ _ _
    refine wpAny_bind (nextStr_item (h1.extBut hs₁.extBut D.i1z) hx fun h₂ h1₂ hs₂ => wpAny_pure ?_)
    replace hs₂ : Heap.SameBut i1 h₁ h₂ := hs₂
    refine wpAny_pure ?_
    refine wpAny_bind (wpAny_bind (wpAny_holding ?_))
    show wpAny _ _ (Builtin.SmallTypes.nextOf (.ref i2) >>= _) _ _ _
    refine wpAny_bind (nextStr_item ((h2.extBut hs₁.extBut D.i2z).extBut hs₂.extBut D.i12.symm) hy fun h₄ h2₄ hs₄ => wpAny_pure ?_)
    replace hs₄ : Heap.SameBut i2 h₂ h₄ := hs₄
    refine wpAny_pure (wpAny_pure ?_)
    refine wpAny_bind (wpAny_newTuple ?_ (by (show 2 ≤ sizeLine); rw [PySem.sizeLine_eq]; decide))
    refine wpAny_pure ⟨_, rfl, ?_⟩
    have hsz : h₄.objs.size = s.heap.objs.size := by rw [hs₄.1, hs₂.1, hs₁.1]
    have hk₄ : ∀ c o, c ≠ z → c ≠ i1 → c ≠ i2 → s.heap.get? c = some o → h₄.get? c = some o := fun c o c1 c3 c4 e => hs₄.extBut _ _ c4 (hs₂.extBut _ _ c3 (hs₁.extBut _ _ c1 e))
    have hz₄ : ZAt h₄ z TI TO f0 (.bool true) := hs₄.extBut _ _ D.i2z.symm (hs₂.extBut _ _ D.i1z.symm hz₁)
    have h1₄ : h₄.IsStrIter i1 (strIterType x) x t (i + 1) := h1₂.extBut hs₄.extBut D.i12
    have up : ∀ c o, h₄.get? c = some o → (h₄.push { cls := .type "tuple", data := .seq #[.str ⟨#[c1]⟩ s.toks, .str ⟨#[c2]⟩ (s.toks + 1)] }).get? c = some o := fun c o e => Heap.get?_push_of_some _ e
    refine hQ _ h₄.objs.size s.toks (s.toks + 1) _ ⟨⟨_, _, up _ _ hz₄, hf⟩, up _ _ (hk₄ _ _ D.TIz D.TIi1 D.TIi2 hTI), ⟨_, _, up _ _ (hk₄ _ _ D.TOz D.TOi1 D.TOi2 hTO)⟩, ?_, ?_⟩ (Heap.get?_push_size _ rfl) (Nat.le_of_eq hsz.symm) fun c o c1 _ c3 c4 e => up c o (hk₄ c o c1 c3 c4 e)
    · obtain ⟨o, ho, r⟩ := h1₄; exact ⟨o, up _ _ ho, r⟩
    · obtain ⟨o, ho, r⟩ := h2₄; exact ⟨o, up _ _ ho, r⟩
theorem zip_end {x y : Str} {t u : Tok} {z TI TO i1 i2 : Addr} {i : Nat} {f0 : Value} {f1 : Bool} {Q : Fin → Shared → Prop} (hh : A.handled = none) (D : ZApart z TI TO i1 i2)
    (hz : ZAt s.heap z TI TO f0 (.bool f1)) (hf : f0 = .none ∨ ∃ T : Addr, f0 = rawInt T) (hTI : IsPair s.heap TI (.ref i1) (.ref i2)) (hTO : ∃ a b, IsPair s.heap TO a b) (h1 : s.heap.IsStrIter i1 (strIterType x) x t i) (h2 : s.heap.IsStrIter i2 (strIterType y) y u i)
    {c1 : Nat} (hx : x.cps[i]? = some c1) (hy : y.cps[i]? = none) (hE : ZEnd z TO i1 i2 E s) :
    wpAny (model prog w) A (Builtin.«zip.__next__» ⟨[.ref z], []⟩) Q E s := by
  obtain ⟨a, b, hTO⟩ := hTO
  show wpAny _ _ (field (.ref z) 2 >>= _) _ _ _
  refine wpAny_bind (wpAny_field hz rfl (x := .bool false) rfl ?_)
  show wpAny _ _ (field (.ref z) 3 >>= _) _ _ _
  refine wpAny_bind (wpAny_field hz rfl (x := .ref TI) rfl ?_)
  refine wpAny_bind (wpAny_seqItems hTI rfl ?_)
  show wpAny _ _ (Builtin.SmallTypes.ownedTupleIsFree (.ref z) >>= _) _ _ _
  refine wpAny_bind (isFree hz hf ?_ fun h₁ hz₁ hs₁ => ?_)
  · simp only [if_true]
    refine wpAny_bind (wpAny_rule ?_)
    refine wpAny_bind (wpAny_field hz rfl (x := .ref TO) rfl ?_)
    refine wpAny_bind (wpAny_setField_rec hz (by simp) fun h₁ hz₁ hs₁ => ?_)
    replace hz₁ : ZAt h₁ z TI TO .ellipsis (.bool f1) := hz₁
    replace hs₁ : Heap.SameBut z s.heap h₁ := hs₁
    refine wpAny_bind ?_
    simp only [List.zipIdx_cons, List.zipIdx_nil, List.forIn_cons, List.forIn_nil]
    refine wpAny_bind (wpAny_bind (wpAny_onRaise ?_))
    show wpAny _ _ (Builtin.SmallTypes.nextOf (.ref i1) >>= _) _ _ _
    refine wpAny_bind (nextStr_item (h1.extBut hs₁.extBut D.i1z) hx fun h₂ h1₂ hs₂ => wpAny_pure ?_)
    replace hs₂ : Heap.SameBut i1 h₁ h₂ := hs₂
    have hTO₂ : IsPair h₂ TO a b := hs₂.extBut _ _ D.TOi1 (hs₁.extBut _ _ D.TOz hTO)
    refine wpAny_bind (wpAny_seqItems hTO₂ rfl ?_)
    refine wpAny_bind (wpAny_updateSeq_pair hTO₂ fun h₃ hTO₃ hs₃ => ?_)
    replace hs₃ : Heap.SameBut TO h₂ h₃ := hs₃
    refine wpAny_bind (wpAny_letGo (wpAny_pure ?_))
    refine wpAny_bind (wpAny_bind (wpAny_onRaise ?_))
    show wpAny _ _ (Builtin.SmallTypes.nextOf (.ref i2) >>= _) _ _ _
    refine wpAny_bind (nextStr_end hh (((h2.extBut hs₁.extBut D.i2z).extBut hs₂.extBut D.i12.symm).extBut hs₃.extBut D.TOi2.symm) hy fun h₄ e hs₄ he => ?_)
    obtain ⟨oe, hoe, hce⟩ := he
    have hz₄ : ZAt h₄ z TI TO .ellipsis (.bool f1) := hs₄ _ _ D.i2z.symm (hs₃.extBut _ _ D.TOz.symm (hs₂.extBut _ _ D.i1z.symm hz₁))
    have hez : e ≠ z := fun x => by subst x; rw [hz₄] at hoe; cases hoe; simp at hce
    refine wpAny_setField_rec hz₄ (by simp) fun h₅ _ hs₅ => hE h₅ e _ (fun c o c1 c2 c3 c4 x => hs₅.extBut _ _ c1 (hs₄ _ _ c4 (hs₃.extBut _ _ c2 (hs₂.extBut _ _ c3 (hs₁.extBut _ _ c1 x))))) ⟨oe, hs₅.extBut _ _ hez hoe, hce⟩
  · simp only [Bool.false_eq_true, if_false]
    replace hs₁ : Heap.SameBut z s.heap h₁ := hs₁
    refine wpAny_bind ?_
    rw [List.forIn_toArray]
    simp only [List.forIn_cons, List.forIn_nil]
    refine wpAny_bind (wpAny_bind (wpAny_holding ?_))
    show wpAny _ _ (Builtin.SmallTypes.nextOf (.ref i1) >>= _) _ _ _
    refine wpAny_bind (nextStr_item (h1.extBut hs₁.extBut D.i1z) hx fun h₂ h1₂ hs₂ => wpAny_pure ?_)
    replace hs₂ : Heap.SameBut i1 h₁ h₂ := hs₂
    refine wpAny_pure ?_
    refine wpAny_bind (wpAny_bind (wpAny_holding ?_))
    show wpAny _ _ (Builtin.SmallTypes.nextOf (.ref i2) >>= _) _ _ _
    refine wpAny_bind (nextStr_end hh ((h2.extBut hs₁.extBut D.i2z).extBut hs₂.extBut D.i12.symm) hy fun h₄ e hs₄ he => ?_)
    exact hE h₄ e _ (fun c o c1 _ c3 c4 x => hs₄ _ _ c4 (hs₂.extBut _ _ c3 (hs₁.extBut _ _ c1 x))) he
theorem nextZip_item {x y : Str} {t u : Tok} {z TI TO i1 i2 : Addr} {i c1 c2 : Nat} {Q : Value → Shared → Prop} (D : ZApart z TI TO i1 i2)
    (st : ZS x y t u z TI TO i1 i2 i s.heap) (hx : x.cps[i]? = some c1) (hy : y.cps[i]? = some c2) (hQ : ZItem x y t u z TI TO i1 i2 i c1 c2 Q s) :
    wpAny (model prog w) A (Builtin.SmallTypes.nextOf (.ref z)) Q E s := by
  obtain ⟨⟨f0, f1, hz, hf⟩, hTI, hTO, h1, h2⟩ := st
  have hT : s.TypeIs (.ref z) "zip" := ⟨_, hz, rfl⟩
  unfold Builtin.SmallTypes.nextOf
  exact wpAny_bind (wpAny_callSpecial?_slot (name := Str.ofString "__next__") hT F.slot_zip_next
    (wpAny_call_entry F.slot_zip_next hT F.entry_zip_next (zip_draw D hz hf hTI hTO h1 h2 hx hy fun h' R v1 v2 tk a b c d => wpAny_pure (hQ h' R v1 v2 tk a b c d)) (F.args_zip_next_1 _)))
theorem nextZip_end {x y : Str} {t u : Tok} {z TI TO i1 i2 : Addr} {i c1 : Nat} {Q : Value → Shared → Prop} (hh : A.handled = none) (D : ZApart z TI TO i1 i2)
    (st : ZS x y t u z TI TO i1 i2 i s.heap) (hx : x.cps[i]? = some c1) (hy : y.cps[i]? = none) (hE : ZEnd z TO i1 i2 E s) :
    wpAny (model prog w) A (Builtin.SmallTypes.nextOf (.ref z)) Q E s := by
  obtain ⟨⟨f0, f1, hz, hf⟩, hTI, hTO, h1, h2⟩ := st
  have hT : s.TypeIs (.ref z) "zip" := ⟨_, hz, rfl⟩
  unfold Builtin.SmallTypes.nextOf
  exact wpAny_bind (wpAny_callSpecial?_slot (name := Str.ofString "__next__") hT F.slot_zip_next
    (wpAny_call_entry F.slot_zip_next hT F.entry_zip_next (zip_end hh D hz hf hTI hTO h1 h2 hx hy hE) (F.args_zip_next_1 _)))
end
end Mine

-- MEnumC
namespace Mine
open PySem PySem.W PySem.Calls PyProof.Rows PySem.Spec
set_option maxRecDepth 100000
section
variable {prog : Program} {w : World} {A : Around} {E : Value → Shared → Prop} {s : Shared}
structure EApart (e z TI TO i1 i2 : Addr) : Prop where
  ez : e ≠ z
  eTI : e ≠ TI
  eTO : e ≠ TO
  ei1 : e ≠ i1
  ei2 : e ≠ i2
theorem enum_draw {x y : Str} {t u : Tok} {e z TI TO i1 i2 : Addr} {i c1 c2 : Nat} {k : Int} {old : Value} {Q : Value → Shared → Prop} (D : ZApart z TI TO i1 i2) (De : EApart e z TI TO i1 i2)
    (he : IsEnum s.heap e z k old) (st : ZS x y t u z TI TO i1 i2 i s.heap) (hx : x.cps[i]? = some c1) (hy : y.cps[i]? = some c2)
    (hQ : ∀ h' T R v0 v1 v2 tk, IsEnumOut h' e z (k + 1) (.ref R) T → ZS x y t u z TI TO i1 i2 (i + 1) h' → IsPair h' T (.int k v0) (.ref R) → IsPair h' R (.str ⟨#[c1]⟩ v1) (.str ⟨#[c2]⟩ v2) → s.heap.objs.size ≤ T → s.heap.objs.size ≤ R →
      (∀ c o, c ≠ e → c ≠ z → c ≠ TO → c ≠ i1 → c ≠ i2 → s.heap.get? c = some o → h'.get? c = some o) → Q (.ref T) { s with heap := h', toks := tk }) :
    wpAny (model prog w) A (Builtin.«enumerate.__next__» ⟨[.ref e], []⟩) (fun fin s' => ∃ v, fin = .done (.ret v) ∧ Q v s') E s := by
  obtain ⟨hp, g, d, tk₀, os⟩ := s
  show wpAny _ _ (field (.ref e) 2 >>= _) _ _ _
  refine wpAny_bind (wpAny_field he rfl (x := .ref z) rfl ?_)
  refine wpAny_bind (nextZip_item D st hx hy fun h₁ R v1 v2 tk st₁ hR hlR hk₁ => ?_)
  replace hk₁ : ZKeep z TO i1 i2 hp h₁ := hk₁
  replace hlR : hp.objs.size ≤ R := hlR
  have hel : e < hp.objs.size := Heap.lt_size he
  have he₁ : IsEnum h₁ e z k old := hk₁ _ _ De.ez De.eTO De.ei1 De.ei2 he
  show wpAny _ _ (field (.ref e) 3 >>= _) _ _ ⟨h₁, g, d, tk, os⟩
  refine wpAny_bind (wpAny_field he₁ rfl (x := rawInt k) rfl ?_)
  show wpAny _ _ (field (.ref e) 4 >>= _) _ _ ⟨h₁, g, d, tk, os⟩
  refine wpAny_bind (wpAny_field he₁ rfl (x := .none) rfl ?_)
  show wpAny _ _ (mkInt k >>= _) _ _ ⟨h₁, g, d, tk, os⟩
  refine wpAny_bind (wpAny_mkInt ?_)
  show wpAny _ _ (setField (.ref e) 3 (rawInt (k + 1)) >>= _) _ _ ⟨h₁, g, d, tk + 1, os⟩
  refine wpAny_bind (wpAny_setField_rec he₁ (by simp) fun h₂ he₂ hs₂ => ?_)
  replace hs₂ : Heap.SameBut e h₁ h₂ := hs₂
  replace he₂ : IsEnum h₂ e z (k + 1) old := he₂
  show wpAny _ _ (setField (.ref e) 4 .none >>= _) _ _ ⟨h₂, g, d, tk + 1, os⟩
  refine wpAny_bind (wpAny_setField_rec he₂ (by simp) fun h₃ he₃ hs₃ => ?_)
  replace hs₃ : Heap.SameBut e h₂ h₃ := hs₃
  replace he₃ : IsEnum h₃ e z (k + 1) old := he₃
  show wpAny _ _ (newTuple [.int k tk, .ref R] >>= _) _ _ ⟨h₃, g, d, tk + 1, os⟩
  refine wpAny_bind (wpAny_newTuple ?_)
  have he₄ : IsEnum (h₃.push { cls := .type "tuple", data := .seq #[.int k tk, .ref R] }) e z (k + 1) old := Heap.get?_push_of_some _ he₃
  have hT₄ : (h₃.push { cls := .type "tuple", data := .seq #[.int k tk, .ref R] }).get? h₃.objs.size = some { cls := .type "tuple", data := .seq #[.int k tk, .ref R] } := Heap.get?_push_size _ rfl
  have hk₄ : ∀ b o, b ≠ e → h₁.get? b = some o → (h₃.push { cls := .type "tuple", data := .seq #[.int k tk, .ref R] }).get? b = some o := fun b o hbe hb =>
    Heap.get?_push_of_some _ (hs₃.extBut b o hbe (hs₂.extBut b o hbe hb))
  generalize hh₄ : h₃.push { cls := .type "tuple", data := .seq #[.int k tk, .ref R] } = h₄ at he₄ hT₄ hk₄
  have hRlt : R < h₁.objs.size := Heap.lt_size hR
  have hsz : h₃.objs.size = h₁.objs.size := by rw [hs₃.1, hs₂.1]
  have hlT : hp.objs.size ≤ h₃.objs.size := by rw [hsz]; exact Nat.le_trans hlR (Nat.le_of_lt hRlt)
  generalize h₃.objs.size = T at hT₄ hlT
  have hTe : T ≠ e := Nat.ne_of_gt (Nat.lt_of_lt_of_le hel hlT)
  have hRe : R ≠ e := Nat.ne_of_gt (Nat.lt_of_lt_of_le hel hlR)
  clear hh₄
  show wpAny _ _ (Builtin.SmallTypes.ownedTupleIsFree (.ref e) >>= _) _ _ ⟨h₄, g, d, tk + 1, os⟩
  refine wpAny_bind ?_
  unfold Builtin.SmallTypes.ownedTupleIsFree
  refine wpAny_bind (wpAny_field he₄ rfl (x := .none) rfl (wpAny_pure ?_))
  simp only [if_true]
  refine wpAny_bind (wpAny_rule ?_)
  refine wpAny_bind (wpAny_field he₄ rfl (x := old) rfl ?_)
  refine wpAny_bind (wpAny_setField_rec he₄ (by simp) fun h₅ he₅ hs₅ => ?_)
  replace hs₅ : Heap.SameBut e h₄ h₅ := hs₅
  replace he₅ : IsEnum h₅ e z (k + 1) (.ref R) := he₅
  show wpAny _ _ (Builtin.SmallTypes.ownedTupleHandOut (.ref e) (.ref T) >>= _) _ _ ⟨h₅, g, d, tk + 1, os⟩
  refine wpAny_bind ?_
  unfold Builtin.SmallTypes.ownedTupleHandOut
  refine wpAny_bind (wpAny_setField_rec he₅ (by simp) fun h₆ he₆ hs₆ => ?_)
  replace hs₆ : Heap.SameBut e h₅ h₆ := hs₆
  replace he₆ : IsEnumOut h₆ e z (k + 1) (.ref R) T := he₆
  refine wpAny_setField_rec he₆ (by simp) fun h₇ he₇ hs₇ => ?_
  replace hs₇ : Heap.SameBut e h₆ h₇ := hs₇
  replace he₇ : IsEnumOut h₇ e z (k + 1) (.ref R) T := he₇
  have up : ∀ b o, b ≠ e → h₄.get? b = some o → h₇.get? b = some o := fun b o hb e => hs₇.extBut b o hb (hs₆.extBut b o hb (hs₅.extBut b o hb e))
  refine wpAny_bind (wpAny_letGo (wpAny_pure ⟨_, rfl, hQ h₇ T R tk v1 v2 _ he₇ (st₁.keep fun b o hb q => ?_) (up _ _ hTe hT₄) (up _ _ hRe (hk₄ _ _ hRe hR)) hlT hlR fun c o a1 a2 a3 a4 a5 q => up _ _ a1 (hk₄ _ _ a1 (hk₁ _ _ a2 a3 a4 a5 q))⟩))
  have hbe : b ≠ e := by
    rcases hb with rfl | rfl | rfl | rfl | rfl
    · exact De.ez.symm
    · exact De.eTI.symm
    · exact De.eTO.symm
    · exact De.ei1.symm
    · exact De.ei2.symm
  exact up _ _ hbe (hk₄ _ _ hbe q)
theorem nextEnum_item {x y : Str} {t u : Tok} {e z TI TO i1 i2 : Addr} {i c1 c2 : Nat} {k : Int} {old : Value} {Q : Option Value → Shared → Prop} (D : ZApart z TI TO i1 i2) (De : EApart e z TI TO i1 i2)
    (he : IsEnum s.heap e z k old) (st : ZS x y t u z TI TO i1 i2 i s.heap) (hx : x.cps[i]? = some c1) (hy : y.cps[i]? = some c2)
    (hQ : ∀ h' T R v0 v1 v2 tk, IsEnumOut h' e z (k + 1) (.ref R) T → ZS x y t u z TI TO i1 i2 (i + 1) h' → IsPair h' T (.int k v0) (.ref R) → IsPair h' R (.str ⟨#[c1]⟩ v1) (.str ⟨#[c2]⟩ v2) → s.heap.objs.size ≤ T → s.heap.objs.size ≤ R →
      (∀ c o, c ≠ e → c ≠ z → c ≠ TO → c ≠ i1 → c ≠ i2 → s.heap.get? c = some o → h'.get? c = some o) → Q (some (.ref T)) { s with heap := h', toks := tk }) :
    wpAny (model prog w) A (pyNext (.ref e)) Q E s := by
  have hT : s.TypeIs (.ref e) "enumerate" := ⟨_, he, rfl⟩
  unfold pyNext
  exact wpAny_bind (wpAny_attempt (wpAny_callSpecial?_slot (name := Str.ofString "__next__") hT F.slot_enumerate_next
    (wpAny_call_entry F.slot_enumerate_next hT F.entry_enumerate_next
      (enum_draw D De he st hx hy fun h' T R v0 v1 v2 tk a b c d f g k => wpAny_pure (hQ h' T R v0 v1 v2 tk a b c d f g k)) (F.args_enumerate_next_1 _))))
theorem nextEnum_end {x y : Str} {t u : Tok} {e z TI TO i1 i2 : Addr} {i c1 : Nat} {k : Int} {old : Value} {Q : Option Value → Shared → Prop} (hh : A.handled = none) (D : ZApart z TI TO i1 i2)
    (he : IsEnum s.heap e z k old) (st : ZS x y t u z TI TO i1 i2 i s.heap) (hx : x.cps[i]? = some c1) (hy : y.cps[i]? = none)
    (hQ : ∀ h' tk, ZKeep z TO i1 i2 s.heap h' → Q none { s with heap := h', toks := tk }) : wpAny (model prog w) A (pyNext (.ref e)) Q E s := by
  have hT : s.TypeIs (.ref e) "enumerate" := ⟨_, he, rfl⟩
  unfold pyNext
  refine wpAny_bind (wpAny_attempt (wpAny_callSpecial?_slot (name := Str.ofString "__next__") hT F.slot_enumerate_next
    (wpAny_call_entry F.slot_enumerate_next hT F.entry_enumerate_next ?_ (F.args_enumerate_next_1 _))))
  show wpAny _ _ (field (.ref e) 2 >>= _) _ _ _
  refine wpAny_bind (wpAny_field he rfl (x := .ref z) rfl ?_)
  refine wpAny_bind (nextZip_end (by exact hh) D st hx hy fun h' x tk he' hx' => ?_)
  obtain ⟨o, ho, hc⟩ := hx'
  refine wpAny_bind (wpAny_isInstance (T := "StopIteration") (b := true) ⟨o, ho, hc⟩ isSubtype_stop ?_)
  exact wpAny_pure (hQ _ _ he')
end
section
variable {prog : Program} {w : World} {A : Around} {E : Value → Shared → Prop} {s : Shared} {h₀ : Heap} {env : Env} {xi xa xb : Str} {pi pa pb pt pu pos : Pos} {n1 n2 : Nat} {iter : Expr} {body : List Stmt} {m₀ : Str → Option Value} {rest0 : List (Addr × Obj)} {Q : Flow → Shared → Prop}
abbrev six (e z TI TO i1 i2 : Addr) : List Addr := [e, z, TI, TO, i1, i2]
/-- what the iterable of a loop over enumerate(zip(x, y), start=1) must be -/
def EnumSrc (h₀ : Heap) (L : Addr) (x y : Str) (m₀ : Str → Option Value) (rest0 : List (Addr × Obj)) (s : Shared) (xv : Value) (s₁ : Shared) : Prop :=
  ∃ e z TI TO i1 i2 t u h tk, xv = .ref e ∧ s₁ = { s with heap := h, toks := tk } ∧ IsEnum h e z 1 .none ∧ ZS x y t u z TI TO i1 i2 0 h ∧ ZApart z TI TO i1 i2 ∧ EApart e z TI TO i1 i2 ∧
    (∀ a ∈ six e z TI TO i1 i2, h₀.get? a = none ∧ a ≠ L ∧ ∀ p ∈ rest0, p.1 < a) ∧ Fr h₀ L h m₀ ∧ News h₀ L h rest0
def ETurn (h₀ : Heap) (L : Addr) (own : List (Addr × Obj)) (xi xa xb : Str) (ws : List Str) (m₀ : Str → Option Value) (J : List (Addr × Obj) → Prop) (s s' : Shared) : Prop :=
  ∃ m rest h tk, s' = { s with heap := h, toks := tk } ∧ Fr h₀ L h m ∧ News h₀ L h (own ++ rest) ∧ (∀ p ∈ rest, ∀ q ∈ own, p.1 ≠ q.1) ∧ J rest ∧ (∀ z, z ≠ xi → z ≠ xa → z ≠ xb → z ∉ ws → m z = m₀ z)
theorem ownSix {h : Heap} : ∀ as : List Addr, (∀ a ∈ as, ∃ o, h.get? a = some o) → ∃ own : List (Addr × Obj), own.map (·.1) = as ∧ ∀ p ∈ own, h.get? p.1 = some p.2
  | [], _ => ⟨[], rfl, fun _ h => (nomatch h)⟩
  | a :: as, H => by
    obtain ⟨o, ho⟩ := H a (.head _)
    obtain ⟨own, e, k⟩ := ownSix as fun a ha => H a (.tail _ ha)
    refine ⟨(a, o) :: own, by rw [List.map_cons, e], fun p hp => ?_⟩
    rcases List.mem_cons.mp hp with rfl | hp
    · exact ho
    · exact k p hp
end
end Mine

-- MEnumD
namespace Mine
open PySem PySem.W PySem.Calls PyProof.Rows PySem.Spec
set_option maxRecDepth 100000
section
variable {prog : Program} {w : World} {A : Around} {E : Value → Shared → Prop} {s : Shared} {h₀ : Heap} {env : Env} {xi xa xb : Str} {pi pa pb pt pu pos : Pos} {n1 n2 : Nat} {iter : Expr} {body : List Stmt} {m₀ : Str → Option Value} {rest0 : List (Addr × Obj)} {Q : Flow → Shared → Prop}
/-- `for i, (a, b) in enumerate(zip(x, y), start=1):`, y one letter shorter than x -/
theorem for_enum {x y : Str} (ws : List Str) (J₀ : List (Addr × Obj) → Nat → List (Addr × Obj) → Prop) (_F₀ : Fr h₀ env.locals s.heap m₀) (_N₀ : News h₀ env.locals s.heap rest0) (hh : A.handled = none)
    (hxi : env.kindOf xi = some .local) (hxa : env.kindOf xa = some .local) (hxb : env.kindOf xb = some .local) (hp : (env.scope.kind == .class || (env.scope.kind == .module && env.locals != env.globals)) = false) (hlen : x.cps.size = y.cps.size + 1)
    (h : wpAny (model prog w) A (eval iter env) (EnumSrc h₀ env.locals x y m₀ rest0 s) E s)
    (hJ : J₀ rest0 0 rest0)
    (turn : ∀ i c1 c2 v0 v1 v2 (u : Str → Option Value) rest own (s₁ : Shared) h tk, i < y.cps.size → x.cps[i]? = some c1 → y.cps[i]? = some c2 → J₀ rest0 i rest → (∀ p ∈ rest, ∀ q ∈ own, p.1 ≠ q.1) → (∀ p ∈ rest0, ∀ q ∈ own, p.1 < q.1) →
      Fr h₀ env.locals h (fun q => if q = xb then some (.str ⟨#[c2]⟩ v2) else if q = xa then some (.str ⟨#[c1]⟩ v1) else if q = xi then some (.int ((i : Int) + 1) v0) else offW ws u m₀ q) → News h₀ env.locals h (own ++ rest) →
      wpAny (model prog w) A (execs body env) (fun f s' => f = .next ∧ ETurn h₀ env.locals own xi xa xb ws m₀ (J₀ rest0 (i + 1)) s₁ s') (fun _ _ => False) { s₁ with heap := h, toks := tk })
    (done : ∀ (u : Str → Option Value) rest h tk, J₀ rest0 y.cps.size rest → Fr h₀ env.locals h (fun q => if q = xb then u q else if q = xa then u q else if q = xi then u q else offW ws u m₀ q) → News h₀ env.locals h rest → Q .next { s with heap := h, toks := tk })
    (hs : ∀ x, foldedSetIterable iter env x = pure x := by intro _; rfl) :
    wpAny (model prog w) A (exec (.For (.Tuple [.Name xi pi, .Tuple [.Name xa pa, .Name xb pb] n2 pu] n1 pt) iter body [] pos) env) Q E s := by
  generalize hJ0 : J₀ rest0 = J at *
  have NE : ∀ {α : Type} {t : Sem α} {Q' : α → Shared → Prop} {E' : Value → Shared → Prop} {s' : Shared}, wpAny (model prog w) A t Q' (fun _ _ => False) s' → wpAny (model prog w) A t Q' E' s' := fun z => wpAny_mono z (fun _ _ x => x) fun _ _ x => x.elim
  refine wpAny_For (wpAny_mono h (fun xv s₁ h₁ => ?_) fun _ _ e => e) hs
  obtain ⟨e, z, TI, TO, i1, i2, t, u, h₁, tk₁, rfl, rfl, he, st, D, De, fresh, F₁, N₁⟩ := h₁
  refine wpAny_pyIter_enum he ?_
  have hL : ∀ a ∈ six e z TI TO i1 i2, env.locals ≠ a := fun a ha q => (fresh a ha).2.1 q.symm
  have m0 : e ∈ six e z TI TO i1 i2 := by simp
  have m1 : z ∈ six e z TI TO i1 i2 := by simp
  have m2 : TI ∈ six e z TI TO i1 i2 := by simp
  have m3 : TO ∈ six e z TI TO i1 i2 := by simp
  have m4 : i1 ∈ six e z TI TO i1 i2 := by simp
  have m5 : i2 ∈ six e z TI TO i1 i2 := by simp
  have old : ∀ b o, h₀.get? b = some o → b ∉ six e z TI TO i1 i2 := fun b o q hb => by rw [(fresh b hb).1] at q; cases q
  refine codeAny_forLoop_any
    (fun k s' => ∃ (h' : Heap) (tk : Nat) (m' : Str → Option Value) (rest : List (Addr × Obj)) (i : Nat) (ol : Value), s' = { s with heap := h', toks := tk } ∧ IsEnum h' e z ((i : Int) + 1) ol ∧ ZS x y t u z TI TO i1 i2 i h' ∧ Fr h₀ env.locals h' m' ∧ News h₀ env.locals h' rest ∧ (∀ p ∈ rest, ∀ a ∈ six e z TI TO i1 i2, p.1 ≠ a) ∧ J i rest ∧ (∀ q, q ≠ xi → q ≠ xa → q ≠ xb → q ∉ ws → m' q = m₀ q) ∧ i ≤ y.cps.size ∧ k = y.cps.size + 1 - i) ?_ (y.cps.size + 1)
    ⟨h₁, tk₁, m₀, rest0, 0, .none, rfl, he, st, F₁, N₁, fun p hp a ha => Nat.ne_of_lt ((fresh a ha).2.2 p hp), hJ, fun _ _ _ _ _ => rfl, Nat.zero_le _, rfl⟩
  rintro k s' ⟨h', tk, m', rest, i, ol, rfl, he', st', F', N', off', hj, hm, hi, rfl⟩
  have next : ∀ h₂ : Heap, (∀ b o, b ∉ six e z TI TO i1 i2 → h'.get? b = some o → h₂.get? b = some o) → Fr h₀ env.locals h₂ m' ∧ News h₀ env.locals h₂ rest := fun h₂ hk₂ =>
    ⟨⟨F'.ns.at' fun o q => hk₂ _ o (fun hb => hL _ hb rfl) q, fun b o q => hk₂ b o (old b o q) (F'.keep b o q), F'.above⟩, fun p hp => ⟨hk₂ _ _ (fun hb => off' p hp _ hb rfl) (N' p hp).1, (N' p hp).2⟩⟩
  have ltof : ∀ {b : Addr} {o : Obj}, h'.get? b = some o → b < h'.objs.size := fun q => Heap.lt_size q
  by_cases hlt : i < y.cps.size
  · obtain ⟨c1, hc1⟩ : ∃ c, x.cps[i]? = some c := ⟨_, Array.getElem?_eq_getElem (by omega)⟩
    obtain ⟨c2, hc2⟩ : ∃ c, y.cps[i]? = some c := ⟨_, Array.getElem?_eq_getElem hlt⟩
    refine nextEnum_item D De he' st' hc1 hc2 fun h₂ T R v0 v1 v2 tk₂ he₂ st₂ hT₂ hR₂ hlT hlR hk₂ => ?_
    replace hlT : h'.objs.size ≤ T := hlT
    replace hlR : h'.objs.size ≤ R := hlR
    replace hk₂ : ∀ c o, c ≠ e → c ≠ z → c ≠ TO → c ≠ i1 → c ≠ i2 → h'.get? c = some o → h₂.get? c = some o := hk₂
    show wpAny _ A (letOwnedTupleGo _ (.ref e) (.ref T)) _ _ _
    refine wpAny_letOwnedTupleGo_enum he₂ fun h₃ he₃ hs₃ => ?_
    replace hs₃ : Heap.SameBut e h₂ h₃ := hs₃
    have hel : e < h'.objs.size := ltof he'
    have hTe : T ≠ e := Nat.ne_of_gt (Nat.lt_of_lt_of_le hel hlT)
    have hRe : R ≠ e := Nat.ne_of_gt (Nat.lt_of_lt_of_le hel hlR)
    have hT₃ := hs₃.extBut _ _ hTe hT₂
    have hR₃ := hs₃.extBut _ _ hRe hR₂
    have st₃ : ZS x y t u z TI TO i1 i2 (i + 1) h₃ := st₂.keep fun b o hb q => by
      refine hs₃.extBut _ _ ?_ q
      rcases hb with rfl | rfl | rfl | rfl | rfl
      · exact De.ez.symm
      · exact De.eTI.symm
      · exact De.eTO.symm
      · exact De.ei1.symm
      · exact De.ei2.symm
    have hk₃ : ∀ b o, b ∉ six e z TI TO i1 i2 → h'.get? b = some o → h₃.get? b = some o := fun b o hb q => by
      simp only [six, List.mem_cons, List.not_mem_nil, or_false, not_or] at hb
      exact hs₃.extBut _ _ hb.1 (hk₂ b o hb.1 hb.2.1 hb.2.2.2.1 hb.2.2.2.2.1 hb.2.2.2.2.2 q)
    obtain ⟨F₃, N₃⟩ := next h₃ hk₃
    have hLs : env.locals < h'.objs.size := F'.ns.lt
    have hTL : T ≠ env.locals := Nat.ne_of_gt (Nat.lt_of_lt_of_le hLs hlT)
    have hRL : R ≠ env.locals := Nat.ne_of_gt (Nat.lt_of_lt_of_le hLs hlR)
    refine NE (wpAny_assign_Tuple hh ⟨_, hT₃, rfl, _, rfl⟩ rfl rfl fun h₄ hx₄ => ?_)
    replace hx₄ : ∀ b o, h₃.get? b = some o → h₄.get? b = some o := fun b o q => hx₄ b o (Nat.ne_of_lt (Heap.lt_size q)) q
    have hR₄ := hx₄ _ _ hR₃
    have F₄ : Fr h₀ env.locals h₄ m' := F₃.keeps hx₄
    refine assignInOrder_cons (wpAny_assign_Name (wpAny_storeName_local hxi F₄.ns (fun h₅ hn₅ hs₅ => ?_) hp))
    replace hs₅ : Heap.SameBut env.locals h₄ h₅ := hs₅
    have F₅ := F₄.set hn₅ hs₅
    have hR₅ := hs₅.extBut _ _ hRL hR₄
    refine assignInOrder_cons (wpAny_assign_Tuple (env := env) (elts := [.Name xa pa, .Name xb pb]) (x1 := n2) (pos := pu) hh ⟨_, hR₅, rfl, _, rfl⟩ rfl rfl fun h₆ hx₆ => ?_)
    replace hx₆ : ∀ b o, h₅.get? b = some o → h₆.get? b = some o := fun b o q => hx₆ b o (Nat.ne_of_lt (Heap.lt_size q)) q
    have F₆ := F₅.keeps hx₆
    refine assignInOrder_cons (wpAny_assign_Name (wpAny_storeName_local hxa F₆.ns (fun h₇ hn₇ hs₇ => ?_) hp))
    replace hs₇ : Heap.SameBut env.locals h₆ h₇ := hs₇
    have F₇ := F₆.set hn₇ hs₇
    refine assignInOrder_cons (wpAny_assign_Name (wpAny_storeName_local hxb F₇.ns (fun h₈ hn₈ hs₈ => ?_) hp))
    replace hs₈ : Heap.SameBut env.locals h₇ h₈ := hs₈
    refine assignInOrder_nil (assignInOrder_nil ?_)
    have up : ∀ b o, b ≠ env.locals → h₃.get? b = some o → h₈.get? b = some o := fun b o hb q => hs₈.extBut _ _ hb (hs₇.extBut _ _ hb (hx₆ _ _ (hs₅.extBut _ _ hb (hx₄ _ _ q))))
    have F₈ := F₇.set hn₈ hs₈
    have he₈ := up _ _ (hL _ m0).symm he₃
    have st₈ : ZS x y t u z TI TO i1 i2 (i + 1) h₈ := st₃.keep fun b o hb q => up b o (by
      rcases hb with rfl | rfl | rfl | rfl | rfl
      · exact (hL _ m1).symm
      · exact (hL _ m2).symm
      · exact (hL _ m3).symm
      · exact (hL _ m4).symm
      · exact (hL _ m5).symm) q
    have N₈ : News h₀ env.locals h₈ rest := fun p hp => ⟨up _ _ (N₃ p hp).2.1 (N₃ p hp).1, (N₃ p hp).2⟩
    obtain ⟨own, hown, hgo⟩ := ownSix (h := h₈) (six e z TI TO i1 i2) (fun a ha => by
      simp only [six, List.mem_cons, List.not_mem_nil, or_false] at ha
      obtain ⟨⟨f0, f1, hz, _⟩, hTI, ⟨a', b', hTO⟩, ⟨o1, e1, _⟩, ⟨o2, e2, _⟩⟩ := st₈
      rcases ha with rfl | rfl | rfl | rfl | rfl | rfl
      · exact ⟨_, he₈⟩
      · exact ⟨_, hz⟩
      · exact ⟨_, hTI⟩
      · exact ⟨_, hTO⟩
      · exact ⟨_, e1⟩
      · exact ⟨_, e2⟩)
    have ownIn : ∀ q ∈ own, q.1 ∈ six e z TI TO i1 i2 := fun q hq => by rw [← hown]; exact List.mem_map.mpr ⟨q, hq, rfl⟩
    have inOwn : ∀ a ∈ six e z TI TO i1 i2, ∃ q ∈ own, q.1 = a := fun a ha => by rw [← hown] at ha; exact List.mem_map.mp ha
    have e0 : (fun q => if q = xb then some (Value.str ⟨#[c2]⟩ v2) else if q = xa then some (.str ⟨#[c1]⟩ v1) else if q = xi then some (.int ((i : Int) + 1) v0) else m' q) = (fun q => if q = xb then some (.str ⟨#[c2]⟩ v2) else if q = xa then some (.str ⟨#[c1]⟩ v1) else if q = xi then some (.int ((i : Int) + 1) v0) else offW ws m' m₀ q) := by
      funext q
      by_cases q1 : q = xb
      · rw [if_pos q1, if_pos q1]
      · rw [if_neg q1, if_neg q1]
        by_cases q2 : q = xa
        · rw [if_pos q2, if_pos q2]
        · rw [if_neg q2, if_neg q2]
          by_cases q3 : q = xi
          · rw [if_pos q3, if_pos q3]
          · rw [if_neg q3, if_neg q3, offW_eq]
            by_cases q4 : q ∈ ws
            · rw [if_pos q4]
            · rw [if_neg q4]; exact hm q q3 q2 q1 q4
    refine wpAny_mono (turn i c1 c2 v0 v1 v2 m' rest own _ h₈ _ hlt hc1 hc2 hj (fun p hp q hq => off' p hp _ (ownIn q hq)) (fun p hp q hq => (fresh _ (ownIn q hq)).2.2 p hp) (e0 ▸ F₈) (fun p hp => ?_)) (fun f s₃ q => ?_) fun _ _ x => x.elim
    · rcases List.mem_append.mp hp with hp | hp
      · exact ⟨hgo p hp, (fresh _ (ownIn p hp)).2.1, (fresh _ (ownIn p hp)).1⟩
      · exact N₈ p hp
    · obtain ⟨rfl, m₂, rest₂, h₉, tk₉, rfl, F₉, N₉, off₉, hj₉, hm₉⟩ := q
      have keep : ∀ a ∈ six e z TI TO i1 i2, ∀ o, h₈.get? a = some o → h₉.get? a = some o := fun a ha o q => by
        obtain ⟨r, hr, rfl⟩ := inOwn a ha
        have h1 := (N₉ r (List.mem_append_left _ hr)).1
        rw [hgo r hr] at q
        rw [h1, q]
      refine ⟨y.cps.size + 1 - (i + 1), by omega, h₉, tk₉, m₂, rest₂, i + 1, .ref R, rfl, ?_, st₈.keep fun b o hb q => keep b (by
        rcases hb with rfl | rfl | rfl | rfl | rfl
        · exact m1
        · exact m2
        · exact m3
        · exact m4
        · exact m5) o q, F₉, fun p hp => N₉ p (List.mem_append_right _ hp), fun p hp a ha => ?_, hj₉, hm₉, hlt, rfl⟩
      · have := keep e m0 _ he₈
        rw [show (((i + 1 : Nat) : Int) + 1) = (i : Int) + 1 + 1 by omega]
        exact this
      · obtain ⟨r, hr, rfl⟩ := inOwn a ha
        exact off₉ p hp r hr
  · have hin : i = y.cps.size := by omega
    subst hin
    obtain ⟨c1, hc1⟩ : ∃ c, x.cps[y.cps.size]? = some c := ⟨_, Array.getElem?_eq_getElem (by omega)⟩
    refine nextEnum_end hh D he' st' hc1 (by simp) fun h₂ tk₂ hk₂ => ?_
    show wpAny _ A (execs [] env) _ _ _
    refine wpAny_execs_nil ?_
    replace hk₂ : ZKeep z TO i1 i2 h' h₂ := hk₂
    obtain ⟨F₂, N₂⟩ := next h₂ fun b o hb q => by
      simp only [six, List.mem_cons, List.not_mem_nil, or_false, not_or] at hb
      exact hk₂ b o hb.2.1 hb.2.2.2.1 hb.2.2.2.2.1 hb.2.2.2.2.2 q
    refine done m' rest h₂ tk₂ hj ?_ N₂
    have e0 : m' = (fun q => if q = xb then m' q else if q = xa then m' q else if q = xi then m' q else offW ws m' m₀ q) := by
      funext q
      by_cases q1 : q = xb
      · rw [if_pos q1]
      · rw [if_neg q1]
        by_cases q2 : q = xa
        · rw [if_pos q2]
        · rw [if_neg q2]
          by_cases q3 : q = xi
          · rw [if_pos q3]
          · rw [if_neg q3, offW_eq]
            by_cases q4 : q ∈ ws
            · rw [if_pos q4]
            · rw [if_neg q4]; exact hm q q3 q2 q1 q4
    exact e0 ▸ F₂
end
end Mine

-- MEnumE
namespace Mine
open PySem PySem.W PySem.Calls PyProof.Rows PySem.Spec
set_option maxRecDepth 100000
theorem enumSrc {h₀ H h' : Heap} {L : Addr} {x y : Str} {t u : Tok} {m₀ : Str → Option Value} {rest0 : List (Addr × Obj)} {s s₁ : Shared} {tk : Nat} (F : Fr h₀ L H m₀) (N : News h₀ L H rest0)
    (hz : IsZip h' (H.objs.size + 4) (H.objs.size + 2) (H.objs.size + 3) .none) (hTI : IsPair h' (H.objs.size + 2) (.ref H.objs.size) (.ref (H.objs.size + 1))) (hTO : IsPair h' (H.objs.size + 3) .none .none)
    (h1 : h'.IsStrIter H.objs.size (strIterType x) x t 0) (h2 : h'.IsStrIter (H.objs.size + 1) (strIterType y) y u 0) (hsz : h'.objs.size = H.objs.size + 5) (hk : ∀ c o, H.get? c = some o → h'.get? c = some o)
    (hs : s₁ = { s with heap := h'.push { cls := .type "enumerate", data := .fields #[.none, .bool false, .ref (H.objs.size + 4), rawInt 1, .none, .none] }, toks := tk }) :
    EnumSrc h₀ L x y m₀ rest0 s (.ref h'.objs.size) s₁ := by
  subst hs
  have up : ∀ c o, h'.get? c = some o → (h'.push { cls := .type "enumerate", data := .fields #[.none, .bool false, .ref (H.objs.size + 4), rawInt 1, .none, .none] }).get? c = some o := fun c o e => Heap.get?_push_of_some _ e
  have hL : L < H.objs.size := F.ns.lt
  have ne : ∀ (k l : Nat), k ≠ l → ((H.objs.size + k : Nat) : Addr) ≠ H.objs.size + l := fun k l h e => h (Nat.add_left_cancel e)
  have ne0 : ∀ (k : Nat), k ≠ 0 → ((H.objs.size + k : Nat) : Addr) ≠ H.objs.size := fun k h e => h (Nat.add_left_cancel (k := 0) e)
  have fr : ∀ a : Addr, H.objs.size ≤ a → h₀.get? a = none ∧ a ≠ L ∧ ∀ p ∈ rest0, p.1 < a := fun a ha => by
    refine ⟨?_, Nat.ne_of_gt (Nat.lt_of_lt_of_le hL ha), fun p hp => Nat.lt_of_lt_of_le (Heap.lt_size (N p hp).1) ha⟩
    cases e : h₀.get? a with
    | none => rfl
    | some o' => exact absurd (Heap.lt_size (F.keep a o' e)) (Nat.not_lt.mpr ha)
  refine ⟨h'.objs.size, H.objs.size + 4, H.objs.size + 2, H.objs.size + 3, H.objs.size, H.objs.size + 1, t, u, _, tk, rfl, rfl, Heap.get?_push_size _ rfl, ⟨⟨_, _, up _ _ hz, .inl rfl⟩, up _ _ hTI, ⟨_, _, up _ _ hTO⟩, ?_, ?_⟩,
    ⟨ne _ _ (by decide), ne _ _ (by decide), (ne0 _ (by decide)).symm, ne _ _ (by decide), ne _ _ (by decide), ne0 _ (by decide), ne _ _ (by decide), ne0 _ (by decide), ne _ _ (by decide), (ne0 _ (by decide)).symm⟩,
    ⟨?_, ?_, ?_, ?_, ?_⟩, fun a ha => fr a ?_, (F.keeps hk).push _, fun p hp => ⟨up _ _ (hk _ _ (N p hp).1), (N p hp).2⟩⟩
  · obtain ⟨o, e, r⟩ := h1; exact ⟨o, up _ _ e, r⟩
  · obtain ⟨o, e, r⟩ := h2; exact ⟨o, up _ _ e, r⟩
  · rw [hsz]; exact ne _ _ (by decide)
  · rw [hsz]; exact ne _ _ (by decide)
  · rw [hsz]; exact ne _ _ (by decide)
  · rw [hsz]; exact ne0 _ (by decide)
  · rw [hsz]; exact ne _ _ (by decide)
  · simp only [six, List.mem_cons, List.not_mem_nil, or_false] at ha
    rcases ha with rfl | rfl | rfl | rfl | rfl | rfl
    · rw [hsz]; exact Nat.le_add_right _ _
    · exact Nat.le_add_right _ _
    · exact Nat.le_add_right _ _
    · exact Nat.le_add_right _ _
    · exact Nat.le_refl _
    · exact Nat.le_add_right _ _
end Mine

-- MRow0
namespace Mine
open PySem PySem.W PySem.Calls PyProof.Rows PySem.Spec
set_option maxRecDepth 100000
abbrev lst0 (ys : List Value) : Obj := W.listOf ys.toArray 0
section
variable {prog : Program} {w : World} {A : Around} {E : Value → Shared → Prop} {s : Shared} {h₀ : Heap} {L D : Addr} {m : Str → Option Value} {led : List (Addr × Obj)} {g : Obj → List (Addr × Obj)} {ys : List Value}
theorem item0_N {value slice : Expr} {k : Int} {u : Tok} {x : Value} {Q : Value → Shared → Prop} (N : News h₀ L s.heap led) (hm : (D, lst0 ys) ∈ led) (h0 : 0 ≤ k) (hfit : k < 2 ^ 63) (hx : ys[k.toNat]? = some x) (h : Q x s)
    (hs : subscripted slice false (.ref D) (.int k u) = operate [.ref D, .int k u] (getItem (.ref D) (.int k u)) := by with_unfolding_all rfl) (hg : ∀ r, letTemporaryGo value (.ref D) r = pure () := by intro _; with_unfolding_all rfl) :
    wpAny (model prog w) A (subscriptTail value slice (.ref D) (.int k u)) Q E s :=
  item_listL (l := ys) ⟨_, (N _ hm).1, rfl, _, rfl⟩ h0 hfit hx h hs hg
theorem setItem0_N {k : Int} {u : Tok} {v : Value} {Q : Unit → Shared → Prop} (F : Fr h₀ L s.heap m) (N : News h₀ L s.heap led) (U : UpdF D (lst0 ys) led g) (h0 : 0 ≤ k) (h1 : k < ys.length) (hsz : ys.length ≤ sizeLine)
    (h : ∀ h', Fr h₀ L h' m → News h₀ L h' (g (lst0 (ys.set k.toNat v))) → Q () { s with heap := h' }) : wpAny (model prog w) A (setItem (.ref D) (.int k u) v) Q E s := by
  have ND : s.heap.get? D = some (lst0 ys) ∧ D ≠ L ∧ h₀.get? D = none := by
    obtain ⟨pre, post, rfl, _⟩ := U.split
    exact N (D, lst0 ys) (by simp)
  have hsz2 : sizeLine = 16777216 := sizeLine_eq
  have hk : k.toNat < ys.length := by omega
  refine ki_setAt (items := ys.toArray) (n := 0) ND.1 h0 (by omega) (by rw [List.size_toArray]; exact h1) (h _ (F.change (Heap.SameBut.update ..) ND.2.1 ND.2.2) (news_upd N U (Heap.SameBut.update ..) ?_))
  rw [Heap.get?_update_self _ ND.1 rfl]
  refine congrArg some ?_
  unfold Obj.mapSeq lst0
  dsimp only
  simp [List.length_set]
end
def rows0 (rs : List (Addr × List Value)) : List (Addr × Obj) := rs.map fun r => (r.1, lst0 r.2)
theorem row0_mem {rs : List (Addr × List Value)} {i : Nat} {r : Addr × List Value} (h : rs[i]? = some r) : (r.1, lst0 r.2) ∈ rows0 rs :=
  List.mem_map.mpr ⟨r, List.mem_of_getElem? h, rfl⟩
theorem rows0_off {rs : List (Addr × List Value)} {b : Addr} (h : ∀ r ∈ rs, r.1 ≠ b) : ∀ p ∈ rows0 rs, p.1 ≠ b := fun p hp => by
  obtain ⟨r, hr, rfl⟩ := List.mem_map.mp hp
  exact h r hr
theorem rows0_off' {rs : List (Addr × List Value)} {b : Addr} (h : ∀ p ∈ rows0 rs, p.1 ≠ b) : ∀ r ∈ rs, r.1 ≠ b := fun r hr => h (r.1, lst0 r.2) (List.mem_map.mpr ⟨r, hr, rfl⟩)
theorem rows0_snoc (rs : List (Addr × List Value)) (a : Addr) (ys : List Value) : rows0 (rs ++ [(a, ys)]) = rows0 rs ++ [(a, lst0 ys)] := by unfold rows0; rw [List.map_append]; rfl
inductive Seg0 (rs : List (Addr × List Value)) : List (Addr × Obj) → (List (Addr × Obj) → List (Addr × Obj)) → Prop
  | here {post : List (Addr × Obj)} : (∀ r ∈ rs, ∀ p ∈ post, p.1 ≠ r.1) → Seg0 rs (rows0 rs ++ post) (fun t => t ++ post)
  | there {p : Addr × Obj} {led : List (Addr × Obj)} {g : List (Addr × Obj) → List (Addr × Obj)} : (∀ r ∈ rs, p.1 ≠ r.1) → Seg0 rs led g → Seg0 rs (p :: led) (fun t => p :: g t)
theorem Seg0.split {rs : List (Addr × List Value)} {led : List (Addr × Obj)} {g : List (Addr × Obj) → List (Addr × Obj)} (S : Seg0 rs led g) :
    ∃ own post, led = own ++ (rows0 rs ++ post) ∧ (∀ t, g t = own ++ (t ++ post)) ∧ (∀ r ∈ rs, ∀ p ∈ own, p.1 ≠ r.1) ∧ (∀ r ∈ rs, ∀ p ∈ post, p.1 ≠ r.1) := by
  induction S with
  | here h => exact ⟨[], _, rfl, (fun _ => rfl), (fun _ _ _ hp => (nomatch hp)), h⟩
  | there hp _ ih =>
    obtain ⟨own, rest, rfl, hg, h1, h2⟩ := ih
    refine ⟨_ :: own, rest, rfl, (fun t => by show _ :: _ = _; rw [hg]; rfl), fun r hr q hq => ?_, h2⟩
    rcases List.mem_cons.mp hq with rfl | hq
    · exact hp r hr
    · exact h1 r hr q hq
section
variable {prog : Program} {w : World} {A : Around} {E : Value → Shared → Prop} {s : Shared} {h₀ : Heap} {L : Addr} {m : Str → Option Value} {led : List (Addr × Obj)} {g : List (Addr × Obj) → List (Addr × Obj)} {rs : List (Addr × List Value)}
theorem setRow0_N {i : Nat} {r : Addr × List Value} {k : Int} {u : Tok} {v : Value} {Q : Unit → Shared → Prop} (F : Fr h₀ L s.heap m) (N : News h₀ L s.heap led) (S : Seg0 rs led g) (nd : (rs.map (·.1)).Nodup) (hr : rs[i]? = some r) (h0 : 0 ≤ k) (h1 : k < r.2.length) (hsz : r.2.length ≤ sizeLine)
    (h : ∀ h', Fr h₀ L h' m → News h₀ L h' (g (rows0 (rs.set i (r.1, r.2.set k.toNat v)))) → Q () { s with heap := h' }) : wpAny (model prog w) A (setItem (.ref r.1) (.int k u) v) Q E s := by
  obtain ⟨own, post, rfl, hg, h2, h3⟩ := S.split
  obtain ⟨n1, n2, e⟩ := nodup_split nd hr
  have hmem := List.mem_of_getElem? hr
  have eL : rows0 rs = rows0 (rs.take i) ++ (r.1, lst0 r.2) :: rows0 (rs.drop (i + 1)) := by
    conv => lhs; rw [e]
    unfold rows0; rw [List.map_append]; rfl
  have hl : i < rs.length := (List.getElem?_eq_some_iff.mp hr).1
  have eS : ∀ ys, rows0 (rs.set i (r.1, ys)) = rows0 (rs.take i) ++ (r.1, lst0 ys) :: rows0 (rs.drop (i + 1)) := fun ys => by
    rw [List.set_eq_take_append_cons_drop, if_pos hl]
    unfold rows0; rw [List.map_append]; rfl
  have U : UpdF r.1 (lst0 r.2) (own ++ (rows0 rs ++ post)) (fun o' => (own ++ rows0 (rs.take i)) ++ (r.1, o') :: (rows0 (rs.drop (i + 1)) ++ post)) := by
    rw [eL, show own ++ (rows0 (rs.take i) ++ (r.1, lst0 r.2) :: rows0 (rs.drop (i + 1)) ++ post) = (own ++ rows0 (rs.take i)) ++ (r.1, lst0 r.2) :: (rows0 (rs.drop (i + 1)) ++ post) by simp]
    refine updF_at (fun p hp => ?_) _ fun p hp => ?_
    · rcases List.mem_append.mp hp with hp | hp
      · exact rows0_off n2 p hp
      · exact h3 r hmem p hp
    · rcases List.mem_append.mp hp with hp | hp
      · exact h2 r hmem p hp
      · exact rows0_off n1 p hp
  refine setItem0_N F N U h0 h1 hsz fun h' F' N' => h h' F' ?_
  rw [hg, eS]
  simpa using N'
end
theorem off0_snoc {rs : List (Addr × List Value)} {base : List (Addr × Obj)} {P : Addr → Prop} {a : Addr} {ys : List Value} (h : ∀ p ∈ rows0 rs ++ base, P p.1) (ha : P a) : ∀ p ∈ rows0 (rs ++ [(a, ys)]) ++ base, P p.1 := fun p hp => by
  rw [rows0_snoc, List.append_assoc] at hp
  rcases List.mem_append.mp hp with hp | hp
  · exact h p (List.mem_append_left _ hp)
  · rcases List.mem_append.mp hp with hp | hp
    · have : p = (a, lst0 ys) := by simpa using hp
      rw [this]; exact ha
    · exact h p (List.mem_append_right _ hp)
end Mine

-- MGrid
namespace Mine
open PySem PySem.W PySem.Calls PyProof.Rows PySem.Spec
set_option maxRecDepth 100000
theorem SegF.app {tabs led : List (Addr × Obj)} {g : List (Addr × Obj) → List (Addr × Obj)} : ∀ own : List (Addr × Obj), (∀ p ∈ own, p.1 ≠ (172 : Nat)) → SegF tabs led g → SegF tabs (own ++ led) (fun t => own ++ g t)
  | [], _, S => S
  | p :: own, h, S => .there (h p (.head _)) (SegF.app own (fun q hq => h q (.tail _ hq)) S)
theorem Seg0.app {rs : List (Addr × List Value)} {led : List (Addr × Obj)} {g : List (Addr × Obj) → List (Addr × Obj)} : ∀ own : List (Addr × Obj), (∀ r ∈ rs, ∀ p ∈ own, p.1 ≠ r.1) → Seg0 rs led g → Seg0 rs (own ++ led) (fun t => own ++ g t)
  | [], _, S => S
  | p :: own, h, S => .there (fun r hr => h r hr p (.head _)) (Seg0.app own (fun r hr q hq => h r hr q (.tail _ hq)) S)
theorem TabsOk.has {q : Str} {tabs : List (Addr × Obj)} (h : TabsOk q tabs) : ∃ p ∈ tabs, p.1 = (172 : Nat) := by
  obtain ⟨ps, codes, rfl, _⟩ := h; exact ⟨_, .head _, rfl⟩
/-- a grid's rows stand apart from all else -/
structure GOk (D : Addr) (rs : List (Addr × List Value)) (a b c : Addr × Obj) (news tabs : List (Addr × Obj)) : Prop where
  nd : (rs.map (·.1)).Nodup
  post : ∀ r ∈ rs, ∀ p ∈ a :: b :: c :: (tabs ++ news), p.1 ≠ r.1
  offD : ∀ r ∈ rs, D ≠ r.1
  tok : TabsOk lamQ tabs
section
variable {D : Addr} {rs : List (Addr × List Value)} {a b c : Addr × Obj} {news tabs : List (Addr × Obj)}
theorem GOk.h172 (h : GOk D rs a b c news tabs) : ∀ p ∈ rows0 rs, p.1 ≠ (172 : Nat) := by
  obtain ⟨q, hq, e⟩ := h.tok.has
  exact rows0_off fun r hr x => h.post r hr q (.tail _ (.tail _ (.tail _ (List.mem_append_left _ hq)))) (e.trans x.symm)
theorem GOk.set (h : GOk D rs a b c news tabs) {i : Nat} {r : Addr × List Value} (hr : rs[i]? = some r) (ys : List Value) : GOk D (rs.set i (r.1, ys)) a b c news tabs := by
  have key : ∀ q ∈ rs.set i (r.1, ys), ∃ q' ∈ rs, q'.1 = q.1 := fun q hq => by
    have h1 : q.1 ∈ (rs.set i (r.1, ys)).map (·.1) := List.mem_map.mpr ⟨q, hq, rfl⟩
    rw [map_fst_set rs i r hr ys] at h1
    exact List.mem_map.mp h1
  refine ⟨by rw [map_fst_set rs i r hr ys]; exact h.nd, fun q hq p hp => ?_, fun q hq => ?_, h.tok⟩
  · obtain ⟨q', hq', e⟩ := key q hq
    rw [← e]; exact h.post q' hq' p hp
  · obtain ⟨q', hq', e⟩ := key q hq
    rw [← e]; exact h.offD q' hq'
theorem GOk.grow {tabs' N0 : List (Addr × Obj)} (h : GOk D rs a b c news tabs) (hT : Tabs lamQ tabs N0 tabs') (sub : ∀ p ∈ rows0 rs, p ∈ N0) : GOk D rs a b c news tabs' := by
  refine ⟨h.nd, fun r hr p hp => ?_, h.offD, hT.ok⟩
  rcases List.mem_cons.mp hp with rfl | hp
  · exact h.post r hr _ (.head _)
  · rcases List.mem_cons.mp hp with rfl | hp
    · exact h.post r hr _ (.tail _ (.head _))
    · rcases List.mem_cons.mp hp with rfl | hp
      · exact h.post r hr _ (.tail _ (.tail _ (.head _)))
      · rcases List.mem_append.mp hp with hp | hp
        · exact hT.off (b := r.1) (fun q hq => h.post r hr q (.tail _ (.tail _ (.tail _ (List.mem_append_left _ hq))))) ⟨_, sub (r.1, lst0 r.2) (List.mem_map.mpr ⟨r, hr, rfl⟩), rfl⟩ p hp
        · exact h.post r hr p (.tail _ (.tail _ (.tail _ (List.mem_append_right _ hp))))
end
/-- the table off some objects -/
def TOff (own tabs : List (Addr × Obj)) : Prop := ∀ p ∈ tabs, ∀ q ∈ own, p.1 ≠ q.1
theorem TOff.grow {own tabs tabs' N0 : List (Addr × Obj)} (h : TOff own tabs) (hT : Tabs lamQ tabs N0 tabs') (sub : ∀ p ∈ own, p ∈ N0) : TOff own tabs' :=
  fun p hp q hq => hT.off (b := q.1) (fun r hr => h r hr q hq) ⟨q, sub q hq, rfl⟩ p hp
structure TOff2 (own2 own tabs : List (Addr × Obj)) : Prop where
  one : TOff own2 tabs
  two : TOff own tabs
theorem TOff2.grow {own2 own rest tabs tabs' : List (Addr × Obj)} (h : TOff2 own2 own tabs) (hT : Tabs lamQ tabs (own2 ++ (own ++ rest)) tabs') : TOff2 own2 own tabs' := ⟨h.one.grow hT fun _ hp => List.mem_append_left _ hp, h.two.grow hT fun _ hp => List.mem_append_right _ (List.mem_append_left _ hp)⟩
section
variable {prog : Program} {w : World} {A : Around} {E : Value → Shared → Prop} {h₀ : Heap} {L : Addr} {m : Str → Option Value} {env : Env} {elt : Expr} {x : Str} {scope : Scope} {cl : List (Str × Addr)} {s s₁ : Shared} {S : List (Addr × Obj) → Prop} {P : Nat → Value → Prop} {Fin : List Value → List (Addr × Obj) → Prop} {news : List (Addr × Obj)}
theorem restG_inv {n : Nat} (Inv : Nat → List Value → List (Addr × Obj) → Prop) (h0 : Inv 0 [] news)
    (turn : ∀ i v ys nw I oI C oC D m₂ h tk (E' : Value → Shared → Prop), i < n → P i v → Inv i ys nw → LCg.NsObj oC m₂ → m₂ x = some v → Fr h₀ L h m → News h₀ L h ((I, oI) :: (C, oC) :: (D, LCg.lst ys) :: nw) → LCg.Off3 I C D nw → ((@Ne Nat I C) ∧ (@Ne Nat I D) ∧ (@Ne Nat C D)) →
      wpAny (model prog w) A (eval elt (compEnvC scope cl C env)) (LCg.CompEnd h₀ L m { s with heap := h, toks := tk } I oI C oC D (LCg.lst ys) S (fun y nw' => Inv (i + 1) (ys ++ [y]) nw')) E' { s with heap := h, toks := tk })
    (fin : ∀ ys nw, Inv n ys nw → Fin ys nw) : LCg.CompRest prog w A h₀ L m env elt x scope cl s S P Fin n 0 [] news := by
  have key : ∀ (j i : Nat) (ys : List Value) (nw : List (Addr × Obj)), i + j = n → Inv i ys nw → LCg.CompRest prog w A h₀ L m env elt x scope cl s S P Fin j i ys nw := by
    intro j
    induction j with
    | zero =>
      intro i ys nw hi hy
      obtain rfl : i = n := by omega
      exact LCg.CompRest.zero (fin ys nw hy)
    | succ j ih =>
      intro i ys nw hi hy
      refine LCg.CompRest.succ ?_
      intro v I oI C oC D m₂ h tk E' hv hC hx F N off ne
      refine wpAny_mono (turn i v ys nw I oI C oC D m₂ h tk E' (by omega) hv hy hC hx F N off ne) (fun y s₂ hq => ?_) fun _ _ e => e
      obtain ⟨h', tk', nw', e, F', N', off', hS, hi'⟩ := hq
      exact ⟨h', tk', nw', e, F', N', off', hS, ih (i + 1) _ nw' (by omega) hi'⟩
  exact key n 0 [] news (by omega) h0
theorem off3_of {I C D : Addr} : ∀ {l : List (Addr × Obj)}, (∀ p ∈ l, p.1 ≠ I ∧ p.1 ≠ C ∧ p.1 ≠ D) → LCg.Off3 I C D l
  | [], _ => trivial
  | p :: l, h => ⟨h p (.head _), off3_of fun q hq => h q (.tail _ hq)⟩
theorem rep_one (n : Nat) (v : Value) : (List.replicate n [v]).flatten = List.replicate n v := by
  induction n with
  | zero => rfl
  | succ n ih => rw [List.replicate_succ, List.flatten_cons, ih, List.replicate_succ]; rfl
/-- a row of noughts joins the grid -/
theorem gridEnd {I C D D' : Addr} {oI oC oD : Obj} {h' : Heap} {tk : Nat} {all : List (Addr × Obj)} {rows : List (Addr × List Value)} {base : List (Addr × Obj)} {q i : Nat} {t : Tok} {Inv : Nat → List Value → List (Addr × Obj) → Prop} {ys : List Value}
    (F : Fr h₀ L h' m) (N : News h₀ L h' all) (sub : ∀ p ∈ (I, oI) :: (C, oC) :: (D, oD) :: (D', lst0 (List.replicate q (.int 0 t))) :: (rows0 rows ++ base), p ∈ all) (off : LCg.Off3 I C D (rows0 rows ++ base))
    (fresh : @Ne Nat D' I ∧ @Ne Nat D' C ∧ @Ne Nat D' D) (fr : ∀ p ∈ rows0 rows ++ base, @Ne Nat p.1 D') (hys : ys = refs rows) (ok : RowsOk rows base) (fn : RowsFn rows i q fun _ _ => 0)
    (hInv : ∀ rows', RowsOk rows' base → RowsFn rows' (i + 1) q (fun _ _ => 0) → Inv (i + 1) (refs rows') (rows0 rows' ++ base)) :
    LCg.CompEnd h₀ L m s₁ I oI C oC D oD (fun _ => True) (fun y nw' => Inv (i + 1) (ys ++ [y]) nw') (.ref D') { s₁ with heap := h', toks := tk } := by
  have o3 := off.mem
  refine ⟨h', tk, rows0 (rows ++ [(D', List.replicate q (.int 0 t))]) ++ base, rfl, F, fun p hp => N p (sub p ?_), off3_of fun p hp => ?_, trivial, ?_⟩
  · rw [rows0_snoc, List.append_assoc] at hp
    simp only [List.mem_cons, List.mem_append, List.not_mem_nil, or_false] at hp ⊢
    rcases hp with hp | hp | hp | hp | hp | hp
    · exact .inl hp
    · exact .inr (.inl hp)
    · exact .inr (.inr (.inl hp))
    · exact .inr (.inr (.inr (.inr (.inl hp))))
    · exact .inr (.inr (.inr (.inl hp)))
    · exact .inr (.inr (.inr (.inr (.inr hp))))
  · rw [rows0_snoc, List.append_assoc] at hp
    rcases List.mem_append.mp hp with hp | hp
    · exact o3 p (List.mem_append_left _ hp)
    · rcases List.mem_append.mp hp with hp | hp
      · have : p = (D', lst0 (List.replicate q (.int 0 t))) := by simpa using hp
        rw [this]; exact fresh
      · exact o3 p (List.mem_append_right _ hp)
  · show Inv (i + 1) (ys ++ [.ref D']) _
    rw [hys, ← refs_snoc rows D' (List.replicate q (.int 0 t))]
    refine hInv _ (ok.snoc (rows0_off' fun p hp => fr p (List.mem_append_left _ hp)) fun p hp => fr p (List.mem_append_right _ hp)) (fn.snoc (by simp) fun j hj => ⟨t, by simp [hj]⟩)
end
end Mine

-- MCall
namespace Mine
open PySem PySem.W PySem.Calls PyProof.Rows
local macro_rules | `(tactic| walk_at "mine enter") => `(tactic| (refine' code_def ?k1 ?k2 ?k3 ?k4 ?k5 ?kA ?kF ?kK ?k6 ?k7 ?k8 ?k9 ?kB ?_ ?c2 ?c3 ?c4 ?c5; (case kA => exact rfl); (case kF => exact rfl); (case kK => assumption); (case k1 => k_asm); (case k2 => k_asm); (case k3 => k_asm); (case k4 => k_asm); (case k5 => k_asm); (case k6 => k_is); (case k7 => k_is); (case k8 => ktr_room); (case k9 => first | exact BindsTo.of_eq rfl | exact binds_K (by k_in) rfl (by k_is) rfl rfl rfl); (case c5 => decide); (case kB => exact locs rfl); (case c2 => exact rfl); (case c3 => exact rfl); (case c4 => exact rfl); k_whole; intro g' L' h' FG' F' N' B' X' T'; (try dsimp only); (try k_lift B'); (try k_fold)))
local macro_rules | `(tactic| walk_at "mine enterC") => `(tactic| (refine' code_defC ?k1 ?k2 ?k3 ?k4 ?k5 ?kA ?kF ?kK ?k6 ?k7 ?k8 ?k9 ?kB ?kD ?_ ?c2 ?c3 ?c4; (case kA => exact rfl); (case kF => exact rfl); (case kK => assumption); (case k1 => k_asm); (case k2 => k_asm); (case k3 => k_asm); (case k4 => k_asm); (case k5 => k_asm); (case k6 => k_is); (case k7 => k_is); (case k8 => ktr_room); (case k9 => exact BindsTo.of_eq rfl); (case kB => exact rfl); (case kD => decide +kernel); (case c2 => exact rfl); (case c3 => exact rfl); (case c4 => exact rfl); k_whole; intro g' L' h' tk' cells' FG' F' N' Y' B' X' T' l1; (try k_lt l1); k_cells Y'; (try simp only [List.cons_append, List.nil_append] at N'); (try dsimp only); (try k_lift B'); (try k_fold)))
local macro_rules | `(tactic| walk_at "mine enterR") => `(tactic| (refine' kp_rest ?k1 ?k2 ?k3 ?k4 ?k5 ?kA ?kF ?kK ?k6 ?k7 ?k8 ?kV ?kP ?kG ?kB ?_ ?c2 ?c3 ?c4 ?c5; (case kA => exact rfl); (case kF => exact rfl); (case kK => assumption); (case k1 => k_asm); (case k2 => k_asm); (case k3 => k_asm); (case k4 => k_asm); (case k5 => k_asm); (case k6 => k_is); (case k7 => k_is); (case k8 => ktr_room); (case kV => kl_lit); (case kP => exact rfl); (case kG => exact fun _ => rfl); (case kB => exact fun _ => locs rfl); (case c5 => decide); (case c2 => exact rfl); (case c3 => exact rfl); (case c4 => exact rfl); k_whole; intro D' g' L' h' l1 FG' F' N' B' X' T'; (try k_lt l1); (try dsimp only); (try k_lift B'); (try k_fold)))
local macro_rules | `(tactic| walk_at "mine enterRC") => `(tactic| (refine' rest_cells ?k1 ?k2 ?k3 ?k4 ?k5 ?kA ?kF ?kK ?k6 ?k7 ?k8 ?kV ?kP ?kG ?kB ?kD ?_ ?c2 ?c3 ?c4; (case kA => exact rfl); (case kF => exact rfl); (case kK => assumption); (case k1 => k_asm); (case k2 => k_asm); (case k3 => k_asm); (case k4 => k_asm); (case k5 => k_asm); (case k6 => k_is); (case k7 => k_is); (case k8 => ktr_room); (case kV => kl_lit); (case kP => exact rfl); (case kG => exact fun _ => rfl); (case kB => exact fun _ => rfl); (case kD => decide +kernel); (case c2 => exact rfl); (case c3 => exact rfl); (case c4 => exact rfl); k_whole; intro D' g' L' h' tk' cells' l0 lD FG' F' N' Y' B' X' T' l1; (try k_lt l0); (try k_lt l1); k_cells Y'; (try simp only [List.cons_append, List.nil_append] at N'); (try dsimp only); (try k_lift B'); (try k_fold)))

local macro_rules | `(tactic| k_all) => `(tactic| assumption)
local macro_rules | `(tactic| k_room) => `(tactic| ktr_room)
local macro_rules | `(tactic| k_mem) => `(tactic| exact List.mem_append.mpr (.inl (by assumption)))
local macro_rules | `(tactic| walk_at "mine seg") => `(tactic| (first | (refine' SegF.here ?sgC; (case sgC => assumption)) | (refine' SegF.there ?sgA ?sgB; (case sgA => k_ne); (case sgB => walk_at "mine seg"))))
local macro_rules | `(tactic| walk_at "eval Lambda") => `(tactic| (k_here; k_dflt (refine' lam_evalT ?F ?N ?T ?C ?S ?hT ?hN ?hd ?hcl ?_; (case F => k_asm); (case N => k_asm); (case T => k_asm); (case C => kn_code); (case S => walk_at "mine seg"); (case hT => assumption); (case hN => kcj_all); (case hd => exact rfl); (case hcl => exact rfl); k_whole); intro f' c' oc' vs' t' ct' tabs' h' tk' F' N' hT' hm' d1' d2' l1 lt'; (try dsimp only at N'); (try k_lt l1)))
local macro_rules | `(tactic| walk_at "call type:map") => `(tactic| (k_here; (with_reducible show wpAny _ _ (call (Value.type "map") [_, Value.ref _]) _ _ _); k_dflt (refine' call_map_N ?k1 ?k2 ?k3 ?_; (case k1 => k_asm); (case k2 => k_asm); (case k3 => k_mem); k_whole); intro I' h' F' N' l1; (try k_lt l1)))

local macro_rules | `(tactic| walk_at "mine spec") => `(tactic| first | (refine' rcost_any ?k1 ?k2 ?k3 ?k4 ?k5 ?kK ?kd ?ku ?c1 ?c2 ?c3 ?c4 ?c5 ?c6 ?c7 ?_; (case k1 => k_asm); (case k2 => k_asm); (case k3 => k_asm); (case k4 => k_asm); (case k5 => k_asm); (case kK => first | exact rfl | assumption); (case kd => ktr_room); (case ku => ktr_units); (case c1 => assumption); (case c2 => assumption); (case c3 => assumption); (case c4 => walk_at "mine seg"); (case c5 => (first | kcf_m | k_mem)); (case c6 => (first | kcf_m | k_mem)); (case c7 => assumption); k_whole; intro t' tabs' h' tk' hT' F' N'; (try simp only [List.cons_append, List.nil_append] at N'); (try (have hO' := Tabs.ok hT')); (try (have hG' := GOk.grow (by assumption) hT' (by kcf_all))); (try (have hP' := GOk.post hG')); (try (have hU' := TOff.grow (by assumption) hT' (by kcf_all))); (try (have hV' := TOff2.grow (by assumption) hT'))) | (refine' dcost_any ?k1 ?k2 ?k3 ?k4 ?k5 ?kK ?kd ?ku ?c1 ?c2 ?c3 ?c4 ?c5 ?c6 ?c7 ?_; (case k1 => k_asm); (case k2 => k_asm); (case k3 => k_asm); (case k4 => k_asm); (case k5 => k_asm); (case kK => first | exact rfl | assumption); (case kd => ktr_room); (case ku => ktr_units); (case c1 => assumption); (case c2 => assumption); (case c3 => assumption); (case c4 => walk_at "mine seg"); (case c5 => (first | kcf_m | k_mem)); (case c6 => (first | kcf_m | k_mem)); (case c7 => assumption); k_whole; intro t' tabs' h' tk' hT' F' N'; (try simp only [List.cons_append, List.nil_append] at N'); (try (have hO' := Tabs.ok hT')); (try (have hG' := GOk.grow (by assumption) hT' (by kcf_all))); (try (have hP' := GOk.post hG')); (try (have hU' := TOff.grow (by assumption) hT' (by kcf_all))); (try (have hV' := TOff2.grow (by assumption) hT'))) | (refine' maximum_any ?k1 ?k2 ?k3 ?k4 ?k5 ?kK ?kd ?ku ?c1 ?c2 ?c3 ?c4 ?_; (case k1 => k_asm); (case k2 => k_asm); (case k3 => k_asm); (case k4 => k_asm); (case k5 => k_asm); (case kK => first | exact rfl | assumption); (case kd => ktr_room); (case ku => ktr_units); (case c1 => omega); (case c2 => omega); (case c3 => (first | kcf_m | k_mem)); (case c4 => (first | kcf_m | k_mem)); k_whole; intro t' h' tk' F' N') | (refine' quick_any3 ?k1 ?k2 ?k3 ?k4 ?k5 ?kK ?kd ?ku ?c1 ?c2 ?c3 ?c4 ?_; (case k1 => k_asm); (case k2 => k_asm); (case k3 => k_asm); (case k4 => k_asm); (case k5 => k_asm); (case kK => first | exact rfl | assumption); (case kd => ktr_room); (case ku => ktr_units); (case c1 => omega); (case c2 => omega); (case c3 => (first | kcf_m | k_mem)); (case c4 => (first | kcf_m | k_mem)); k_whole; (refine ⟨?_, ?_, ?_⟩ <;> intro t' h' tk' hq' F' N'); (try dsimp only)))
local macro_rules | `(tactic| walk_at "call ref") => `(tactic| (k_here; k_dflt (first | (refine wpAny_call ?_; walk_at "mine spec") | (refine call_meth (by k_asm) (by k_mem) ?_; walk_at "mine spec")); (try dsimp only); (try k_fold)))

local macro_rules | `(tactic| kxi_size) => `(tactic| (rw [PySem.sizeLine_eq]; omega))
local macro_rules | `(tactic| walk_at "subscriptTail") => `(tactic| (k_here; (with_reducible show wpAny _ _ (subscriptTail _ _ (Value.str _ _) (Value.int _ _)) _ _ _); (refine KXi.item (Eq.refl _) (by omega) (by omega) (by omega) ?_); intro kxiE))
local macro_rules | `(tactic| walk_at "subscriptTail") => `(tactic| (k_here; (with_reducible show wpAny _ _ (subscriptTail _ (Expr.Slice _ _ _ _) (Value.str _ _) (Value.ref _)) _ _ _); kxi_slice; intro _ _ _ _ _))
local macro_rules | `(tactic| walk_at "mine cend") => `(tactic| (refine' compEnd_inv ?ceF ?ceN ?ceS ?ceO ?ceH ?_; (case ceF => k_asm); (case ceN => assumption); (case ceS => kcf_all); (case ceO => (first | assumption | (simp only [LCg.Off3, and_true]; assumption) | (simp only [LCg.Off3]; done))); (case ceH => (first | exact True.intro | lcg_src | assumption))))
local macro_rules | `(tactic| walk_at "mine range") => `(tactic| (refine' ⟨_, _, _, _, _, _, _, rfl, rfl, ?rgR, ?rgS, ?rgN, ?rgF, ?rgW⟩; (case rgR => assumption); (case rgS => exact small_one (by omega) (by omega) (by omega) (by omega)); (case rgN => first | (refine Eq.trans (rangeSize_nat _ _) ?_; omega)); (case rgF => k_asm); (case rgW => assumption)))

local macro_rules | `(tactic| walk_at "exec For Name Call cons nil") => `(tactic| (k_here; refine Stop.out ?_))
local macro_rules | `(tactic| walk_at "exec For Name Name cons nil") => `(tactic| (k_here; refine Stop.out ?_))
local macro_rules | `(tactic| walk_at "exec For Tuple Call cons nil") => `(tactic| (k_here; refine Stop.out ?_))

local macro_rules | `(tactic| walk_at "mine off") => `(tactic| (intro z9 h9 h8; (repeat' (first | exact rfl | (refine off_if h9 ?_) | (refine off_in h8 ?_) | (refine off_if (fun e9 => h8 (by rw [e9]; decide)) ?_)))))

local macro_rules | `(tactic| walk_at "mine ofs") => `(tactic| (repeat' (first | assumption | (refine List.forall_mem_cons.mpr ⟨?_, ?_⟩) | k_ne)))
local macro_rules | `(tactic| walk_at "mine led") => `(tactic| (first | assumption | (refine' cb_drop ?cbN ?cbS; (case cbN => assumption); (case cbS => kcj_all))))

local macro_rules | `(tactic| walk_at "exec Assign cons ListComp") => `(tactic| (k_here; refine Stop.out ?_))
local macro_rules | `(tactic| walk_at "eval ListComp") => `(tactic| (k_here; refine Stop.out ?_))
local macro_rules | `(tactic| walk_at "CompSrc") => `(tactic| (refine Stop.out ?_))
local macro_rules | `(tactic| k_mem) => `(tactic| kcf_m)
local macro_rules | `(tactic| walk_at "mine rng1") => `(tactic| (refine' LCg.CompSrc.range ?c1 ?c2 ?c3 ?c4 ?c5 ?c6 ?c7 ?_; (case c1 => exact rfl); (case c2 => k_asm); (case c3 => k_asm); (case c4 => assumption); (case c5 => exact small_one (by omega) (by omega) (by omega) (by omega)); (case c6 => exact rangeSize_nat _ _); (case c7 => (rw [PySem.sizeLine_eq]; omega))))
local macro_rules | `(tactic| walk_at "binaryOp Mult ref int") => `(tactic| (k_here; (with_reducible show wpAny _ _ (binaryOp Operator.Mult (Value.ref _) (Value.int _ _)) _ _ _); k_dflt (refine' KMa.mul ?F ?N ?l ?lo ?hi ?z ?e ?_; (case F => k_asm); (case N => k_asm); (case l => is_list); (case lo => omega); (case hi => omega); (case z => (simp only [List.length_cons, List.length_nil]; omega)); (case e => exact rep_one _ _); k_whole); intro D' h' F' N' l1; (try k_lt l1)))

local macro_rules | `(tactic| walk_at "subscriptTail Name Slice ref ref") => `(tactic| (k_here; (with_reducible show wpAny _ _ (subscriptTail _ (PySem.Expr.Slice (some _) none none _) (Value.ref _) (Value.ref _)) _ _ _); k_dflt (refine' slice_from ?F ?N ?l ?i ?p ?z ?_ ?s ?t; (case F => k_asm); (case N => k_asm); (case l => k_mem); (case i => assumption); (case p => omega); (case z => (rw [PySem.sizeLine_eq]; omega)); (case s => with_unfolding_all rfl); (case t => kmk_pure)); intro D' ws' h' F' N' l1 hI'))
local macro_rules | `(tactic| walk_at "call builtin:sum") => `(tactic| (k_here; (with_reducible show wpAny _ _ (call (Value.builtin "sum") [Value.ref _]) _ _ _); k_dflt (refine' sum_N ?F ?N ?h ?l ?i ?_; (case F => k_asm); (case N => k_asm); (case h => exact rfl); (case l => k_mem); (case i => assumption)); intro h' tk' t' F' N'))

local macro_rules | `(tactic| walk_at "call builtin:min") => `(tactic| (k_here; k_dflt (first | (refine' min3_N ?F ?N ?h ?_; (case F => k_asm); (case N => k_asm); (case h => exact rfl); k_whole) | (refine' min2_N ?F ?N ?h ?_; (case F => k_asm); (case N => k_asm); (case h => exact rfl); k_whole)); intro h' tk' t' F' N'))
local macro_rules | `(tactic| walk_at "call builtin:max") => `(tactic| (k_here; (with_reducible show wpAny _ _ (call (Value.builtin "max") [Value.int _ _, Value.int _ _]) _ _ _); k_dflt (refine' max2_N ?F ?N ?h ?_; (case F => k_asm); (case N => k_asm); (case h => exact rfl); k_whole); intro h' tk' t' F' N'))

local macro_rules | `(tactic| walk_at "mine off5") => `(tactic| (intro z9 h9 h7 h6 h8; (repeat' (first | exact rfl | (refine off_if h9 ?_) | (refine off_if h7 ?_) | (refine off_if h6 ?_) | (refine off_in h8 ?_) | (refine off_if (fun e9 => h8 (by rw [e9]; decide)) ?_)))))

local macro_rules | `(tactic| walk_at "mine down") => `(tactic| (refine' ⟨_, _, _, _, _, _, _, rfl, rfl, ?rgR, ?rgS, ?rgN, ?rgF, ?rgW⟩; (case rgR => assumption); (case rgS => exact small_down (by omega) (by omega)); (case rgN => (refine Eq.trans (size_down (by omega)) ?_; omega)); (case rgF => k_asm); (case rgW => assumption)))
local macro_rules | `(tactic| walk_at "subscriptTail") => `(tactic| (k_here; (with_reducible show wpAny _ _ (subscriptTail _ _ (Value.ref _) (Value.int _ _)) _ _ _); k_dflt (first | (refine' item_N ?i1 ?i2 ?i3 ?i4 ?i5 ?_; (case i1 => k_asm); (case i2 => k_mem); (case i3 => omega); (case i4 => omega); (case i5 => assumption); k_whole) | (refine' item0_N ?i1 ?i2 ?i3 ?i4 ?i5 ?_; (case i1 => k_asm); (case i2 => k_mem); (case i3 => omega); (case i4 => omega); (case i5 => assumption); k_whole))))
local macro_rules | `(tactic| walk_at "mine segR") => `(tactic| (first | (refine' Seg0.here ?sgC; (case sgC => assumption)) | (refine' Seg0.there ?sgA ?sgB; (case sgA => assumption); (case sgB => walk_at "mine segR"))))
local macro_rules | `(tactic| walk_at "setItem ref int") => `(tactic| (k_here; k_dflt (refine' setRow0_N ?s1 ?s2 ?s3 ?s4 ?s5 ?s6 ?s7 ?s8 ?_; (case s1 => k_asm); (case s2 => k_asm); (case s5 => assumption); (case s3 => walk_at "mine segR"); (case s4 => assumption); (case s6 => omega); (case s7 => omega); (case s8 => (rw [PySem.sizeLine_eq]; omega)); k_whole); intro h' F' N'; (try dsimp only at N')))

local macro_rules | `(tactic| k_mem) => `(tactic| kcf_m)

local macro_rules | `(tactic| walk_at "mine segR") => `(tactic| (first | (refine' Seg0.here ?sgC; (case sgC => assumption)) | (refine' Seg0.there ?sgA ?sgB; (case sgA => assumption); (case sgB => walk_at "mine segR")) | (refine' Seg0.app _ ?sgA ?sgB; (case sgA => assumption); (case sgB => walk_at "mine segR"))))
local macro_rules | `(tactic| walk_at "mine seg") => `(tactic| (first | (refine' SegF.here ?sgC; (case sgC => assumption)) | (refine' SegF.there ?sgA ?sgB; (case sgA => (first | assumption | k_ne)); (case sgB => walk_at "mine seg")) | (refine' SegF.app _ ?sgA ?sgB; (case sgA => assumption); (case sgB => walk_at "mine seg"))))

/-- the table's cell i, j, as __call__ fills it -/
def fwr (A B : Nat → Int) (P : Nat → Nat → Int) : Nat → Nat → Int
  | 0, 0 => 0
  | i + 1, 0 => fwr A B P i 0 + A i
  | 0, j + 1 => fwr A B P 0 j + B j
  | i + 1, j + 1 => min (min (fwr A B P i (j + 1) + A i) (fwr A B P (i + 1) j + B j)) (fwr A B P i j + P i j)
abbrev spc (z : Str) : Str := Str.ofString " " ++ Txt.upper z
abbrev dcAt (z : Str) (lo hi : Int) (k : Nat) : Int := dc (Txt.item z (k : Int)) (Txt.item z ((k : Int) + 1)) lo hi
abbrev rcAt (x y : Str) (lo hi : Int) (i j : Nat) : Int := rc (Txt.item x ((i : Int) + 1)) (Txt.item y ((j : Int) + 1)) lo hi
abbrev fwz (x y : Str) (lo hi : Int) : Nat → Nat → Int := fwr (dcAt x lo hi) (dcAt y lo hi) (rcAt x y lo hi)
def callV (z1 z2 : Str) (lo hi : Int) : Int := if z1 = z2 then 0 else if z1.length = 0 ∨ z2.length = 0 then max (z1.length : Int) (z2.length : Int) * hi
  else min (fwz (spc z1) (spc z2) lo hi (Txt.upper z1).length (Txt.upper z2).length) (max (z1.length : Int) (z2.length : Int) * hi)
theorem fwr_00 {A B : Nat → Int} {P : Nat → Nat → Int} : fwr A B P 0 0 = 0 := by simp only [fwr]
theorem fwr_col {A B : Nat → Int} {P : Nat → Nat → Int} {i : Nat} : fwr A B P (i + 1) 0 = fwr A B P i 0 + A i := by simp only [fwr]
theorem fwr_row {A B : Nat → Int} {P : Nat → Nat → Int} {j : Nat} : fwr A B P 0 (j + 1) = fwr A B P 0 j + B j := by simp only [fwr]
theorem fwr_in {A B : Nat → Int} {P : Nat → Nat → Int} {i j : Nat} : fwr A B P (i + 1) (j + 1) = min (min (fwr A B P i (j + 1) + A i) (fwr A B P (i + 1) j + B j)) (fwr A B P i j + P i j) := by simp only [fwr]
theorem col_val {x y : Str} {lo hi : Int} {f : Nat → Nat → Int} {i : Nat} {kv : Int} (hk : kv = (i : Int) + 1) (h : f i 0 = fwz x y lo hi i 0) :
    f (kv - 1).toNat (0 : Int).toNat + dc (Txt.item x (kv - 1)) (Txt.item x kv) lo hi = fwz x y lo hi kv.toNat (0 : Int).toNat := by
  rw [show kv - 1 = (i : Int) by omega, show kv.toNat = i + 1 by omega, hk]
  show f i 0 + _ = fwr _ _ _ (i + 1) 0
  rw [fwr_col, h]
theorem row_val {x y : Str} {lo hi : Int} {f : Nat → Nat → Int} {j : Nat} {kv : Int} (hk : kv = (j : Int) + 1) (h : f 0 j = fwz x y lo hi 0 j) :
    f (0 : Int).toNat (kv - 1).toNat + dc (Txt.item y (kv - 1)) (Txt.item y kv) lo hi = fwz x y lo hi (0 : Int).toNat kv.toNat := by
  rw [show kv - 1 = (j : Int) by omega, show kv.toNat = j + 1 by omega, hk]
  show f 0 j + _ = fwr _ _ _ 0 (j + 1)
  rw [fwr_row, h]
theorem TOff.not172 {own tabs : List (Addr × Obj)} (h : TOff own tabs) (ok : TabsOk lamQ tabs) : ∀ p ∈ own, p.1 ≠ (172 : Nat) := fun p hp e => by
  obtain ⟨q, hq, e2⟩ := ok.has
  exact h q hq p hp (e2.trans e.symm)
theorem in_val {x y : Str} {lo hi : Int} {f : Nat → Nat → Int} {i j c1 c2 d1 d2 : Nat} (hc1 : Txt.item x (i : Int) = ⟨#[c1]⟩) (hc2 : Txt.item x ((i + 1 : Nat) : Int) = ⟨#[c2]⟩) (hd1 : Txt.item y (j : Int) = ⟨#[d1]⟩) (hd2 : Txt.item y ((j + 1 : Nat) : Int) = ⟨#[d2]⟩)
    (h1 : f i (j + 1) = fwz x y lo hi i (j + 1)) (h2 : f (i + 1) j = fwz x y lo hi (i + 1) j) (h3 : f i j = fwz x y lo hi i j) :
    min (min (f ((i : Int) + 1 - 1).toNat ((j : Int) + 1).toNat + dc ⟨#[c1]⟩ ⟨#[c2]⟩ lo hi) (f ((i : Int) + 1).toNat ((j : Int) + 1 - 1).toNat + dc ⟨#[d1]⟩ ⟨#[d2]⟩ lo hi)) (f ((i : Int) + 1 - 1).toNat ((j : Int) + 1 - 1).toNat + rc ⟨#[c2]⟩ ⟨#[d2]⟩ lo hi) = fwz x y lo hi ((i : Int) + 1).toNat ((j : Int) + 1).toNat := by
  rw [show ((i : Int) + 1 - 1).toNat = i by omega, show ((i : Int) + 1).toNat = i + 1 by omega, show ((j : Int) + 1 - 1).toNat = j by omega, show ((j : Int) + 1).toNat = j + 1 by omega]
  show _ = fwr _ _ _ (i + 1) (j + 1)
  rw [fwr_in, h1, h2, h3, ← hc1, ← hc2, ← hd1, ← hd2]
  rfl
theorem cell_step {f fw : Nat → Nat → Int} {C C' : Nat → Nat → Prop} {n m k l : Nat} {V : Int} (h : ∀ a b, a ≤ n → b ≤ m → C a b → f a b = fw a b) (hV : V = fw k l) (hC : ∀ a b, C' a b → C a b ∨ (a = k ∧ b = l)) :
    ∀ a b, a ≤ n → b ≤ m → C' a b → (if a = k ∧ b = l then V else f a b) = fw a b := by
  intro a b ha hb hc
  by_cases e : a = k ∧ b = l
  · rw [if_pos e, e.1, e.2, hV]
  · rw [if_neg e]
    rcases hC a b hc with z | z
    · exact h a b ha hb z
    · exact absurd z e
theorem off_rest {b D : Addr} {oD oD' : Obj} {rs rs' : List (Addr × List Value)} {p1 p2 p3 : Addr × Obj} {tabs tabs' news : List (Addr × Obj)} (h : ∀ p ∈ (D, oD) :: (rows0 rs ++ p1 :: p2 :: p3 :: (tabs ++ news)), p.1 ≠ b) (hr : rs'.map (·.1) = rs.map (·.1)) (ht : ∀ p ∈ tabs', p.1 ≠ b) :
    ∀ p ∈ (D, oD') :: (rows0 rs' ++ p1 :: p2 :: p3 :: (tabs' ++ news)), p.1 ≠ b := fun p hp => by
  rcases List.mem_cons.mp hp with rfl | hp
  · exact h (D, oD) (.head _)
  · rcases List.mem_append.mp hp with hp | hp
    · obtain ⟨r, hr', rfl⟩ := List.mem_map.mp hp
      have h1 : r.1 ∈ rs'.map (·.1) := List.mem_map.mpr ⟨r, hr', rfl⟩
      rw [hr] at h1
      obtain ⟨q, hq, e⟩ := List.mem_map.mp h1
      show r.1 ≠ b
      rw [← e]
      exact h (q.1, lst0 q.2) (.tail _ (List.mem_append_left _ (List.mem_map.mpr ⟨q, hq, rfl⟩)))
    · have up : ∀ {q}, q ∈ p1 :: p2 :: p3 :: (tabs ++ news) → q.1 ≠ b := fun z => h _ (.tail _ (List.mem_append_right _ z))
      rcases List.mem_cons.mp hp with rfl | hp
      · exact up (.head _)
      · rcases List.mem_cons.mp hp with rfl | hp
        · exact up (.tail _ (.head _))
        · rcases List.mem_cons.mp hp with rfl | hp
          · exact up (.tail _ (.tail _ (.head _)))
          · rcases List.mem_append.mp hp with hp | hp
            · exact ht p hp
            · exact up (.tail _ (.tail _ (.tail _ (List.mem_append_right _ hp))))
theorem callWith_typeK {M : Model} {A : Around} {E : Value → Shared → Prop} {s : Shared} {env : Env} {pos : Pos} {T : String} {e : Expr} {rest : List Expr} {kws : List Keyword} {Q : Value → Shared → Prop}
    (h : wpAny M A (spliced (backTo pos (starEach (e :: rest) env))) (fun vs s₁ => wpAny M A (evalAll ((backToKw pos (keywordEach kws env)).map (·.2)))
      (fun kvs s₂ => wpAny M A (call (.type T) vs (((backToKw pos (keywordEach kws env)).filterMap (·.1)).zip kvs)) Q E s₂) E s₁) E s)
    (he : backTo pos (starEach (e :: rest) env) = (false, eval e env) :: backTo pos (starEach rest env) := by rfl)
    (hplain : (backTo pos (starEach (e :: rest) env)).any (·.1) = false := by rfl)
    (hall : (backToKw pos (keywordEach kws env)).all (·.1.isSome) = true := by rfl)
    (hkw : (backToKw pos (keywordEach kws env)).any (·.1.isNone) = false := by rfl) :
    wpAny M A (callWith pos (.type T) [] (backTo pos (starEach (e :: rest) env)) (backToKw pos (keywordEach kws env))) Q E s := by
  have h2 : wpAny M A (evalArgs (.type T) true (backTo pos (starEach (e :: rest) env)) (backToKw pos (keywordEach kws env))) (fun a s₁ => wpAny M A (call (.type T) ([] ++ a.pos) a.kw) Q E s₁) E s := by
    rw [he] at h ⊢
    exact evalArgs_kwB hall h
  unfold callWith
  refine wpAny_bind (wpAny_holding (wpAny_mono h2 (fun a s₁ h₁ => wpAny_bind (wpAny_standAt ?_)) fun _ _ x => x))
  simp only [hplain, hkw, Bool.or_false]
  refine wpAny_bind (wpAny_pure ?_)
  exact wpAny_bind (wpAny_mono h₁ (fun r s₂ hr => wpAny_bind (wpAny_holding (wpAny_point (wpAny_pure hr)))) fun _ _ x => x)
theorem callV_same {z1 z2 : Str} {lo hi : Int} (h : z1 = z2) : callV z1 z2 lo hi = 0 := by unfold callV; rw [if_pos h]
theorem callV_none {z1 z2 : Str} {lo hi : Int} (h : ¬ z1 = z2 ∧ (z1.length = 0 ∨ z2.length = 0)) : callV z1 z2 lo hi = max (z1.length : Int) (z2.length : Int) * hi := by unfold callV; rw [if_neg h.1, if_pos h.2]
theorem callV_some {z1 z2 : Str} {lo hi : Int} (h : ¬ z1 = z2 ∧ 1 ≤ z1.length ∧ 1 ≤ z2.length) : callV z1 z2 lo hi = min (fwz (spc z1) (spc z2) lo hi (Txt.upper z1).length (Txt.upper z2).length) (max (z1.length : Int) (z2.length : Int) * hi) := by
  unfold callV; rw [if_neg h.1, if_neg (by omega)]

set_option maxRecDepth 100000 in
set_option maxHeartbeats 8000000 in
theorem call_spec {w : World} {p : Program} {loose : List Str} {mean : ExcName → Option Value} {mg mb : Str → Option Value} {news : List (Addr × Obj)}
   {dp un : Nat} {gd : Option (List Code)} {cn : Str} {cs : Scope} {a : Addr} {ccd : Value} {cl : List (Str × Addr)} {outer : List Env} {A₀ : Around} {base h₀ : Heap} {L : Addr} {m : Str → Option Value} {s : Shared} {R : Result → Shared → Prop} {lo hi : Int} {k1 k2 k3 k4 k5 k6 : Int} {t1 t2 t3 t4 t5 t6 u1 u2 u3 u6 : Tok} {x dx : Addr} {z1 z2 : Str} {tx ty : Tok} {tabs : List (Addr × Obj)}
   (B : Below A₀ base outer h₀) (F : Fr h₀ L s.heap m) (X : (hd.heap_39 w.params).In h₀) (N : News h₀ L s.heap ((x, instObj 192 dx) :: (dx, edDict lo hi k1 k2 k3 k4 k5 k6 t1 t2 t3 t4 t5 t6 u1 u2 u3 u6) :: (tabs ++ news))) (T : Top p loose mean mg mb h₀) (hck : cs.kind = .function)
   (hroom : dp + 10 < recursionLimit) (hunits : un + 240 < cLine) (codeHd : CodeHd base 176 172) (hx1 : @LT.lt Nat _ dx x) (hx2 : @LT.lt Nat _ 172 dx) (hoff : ∀ p ∈ news, p.1 ≠ 172) (hT0 : TabsOk lamQ tabs) (hx : z1.length ≤ 16) (hy : z2.length ≤ 16)
   (hret : ∀ t tabs' h' tk', TabsOk lamQ tabs' → Fr h₀ L h' m → News h₀ L h' ((x, instObj 192 dx) :: (dx, edDict lo hi k1 k2 k3 k4 k5 k6 t1 t2 t3 t4 t5 t6 u1 u2 u3 u6) :: (tabs' ++ news)) → R (.ok (.ret (.int (callV z1 z2 lo hi) t))) { s with heap := h', toks := tk' }) :
   codeAny (model PySem.Challenge.rw_br0031_01.row.prog w) (ktrTop dp un gd cn cs L a ccd cl outer) (.call (.ref 189) ⟨[.ref x, .str z1 tx, .str z2 ty], []⟩) R s := by
  w_top off
  revert X; k_fill; intro X
  (refine' code_defC ?k1 ?k2 ?k3 ?k4 ?k5 ?kA ?kF ?kK ?k6 ?k7 ?k8 ?k9 ?kB ?kD ?_ ?c2 ?c3 ?c4; (case kA => exact rfl); (case kF => exact rfl); (case kK => assumption); (case k1 => k_asm); (case k2 => k_asm); (case k3 => k_asm); (case k4 => k_asm); (case k5 => k_asm); (case k6 => k_is); (case k7 => k_is); (case k8 => ktr_room); (case k9 => exact BindsTo.of_eq rfl); (case kB => exact rfl); (case kD => decide +kernel); (case c2 => exact rfl); (case c3 => exact rfl); (case c4 => exact rfl); k_whole)
  intro g1 L1 h1 tk1 cells1 FG1 F1 N1 Y1 B1 X1 T1 l1
  obtain ⟨o1a, hE1, d1a⟩ := CellsAre.one Y1
  subst hE1
  clear Y1
  (try simp only [List.cons_append, List.nil_append] at N1)
  (try k_lt l1); (try dsimp only); (try k_lift B1); (try k_fold)
  obtain ⟨l1x, l1d, l1t⟩ := l1
  have l1n : ∀ p ∈ tabs ++ news, @LT.lt Nat _ p.1 L1 := kst_ltOf l1t
  have hn1 : ∀ p ∈ tabs ++ news, @Ne Nat p.1 (L1 + 1) := fun p hp => Nat.ne_of_lt (Nat.lt_add_right 1 (l1n p hp))
  have hn2 : ∀ p ∈ tabs ++ news, @Ne Nat p.1 (L1 + 1 + 1) := fun p hp => Nat.ne_of_lt (Nat.lt_add_right 2 (l1n p hp))
  have hx1n : @LT.lt Nat _ x L1 := l1x
  have hd1n : @LT.lt Nat _ dx L1 := l1d
  have eS1 : (Str.ofString " ").length = 1 := rfl
  k_steps
  · refine' cast_ret ?e0 (hret _ tabs _ _ hT0 ?e1 ?e2)
    · exact callV_same (by assumption)
    · k_asm
    · first | k_asm | (refine' cb_drop ?cbN ?cbS; (case cbN => assumption); (case cbS => kcj_all))
  · refine' cast_ret ?e3 (hret _ tabs _ _ hT0 ?e4 ?e5)
    · exact callV_none (by assumption)
    · k_asm
    · first | k_asm | (refine' cb_drop ?cbN ?cbS; (case cbN => assumption); (case cbS => kcj_all))
  rename ¬ z1 = z2 ∧ 1 ≤ z1.length ∧ 1 ≤ z2.length => hne
  rename (Txt.upper z1).length ≤ 3 * z1.length => hu1
  rename (Txt.upper z2).length ≤ 3 * z2.length => hu2
  refine Stop.into ?_
  k_dflt (refine LCg.Assign_ListComp_U (F₀ := by k_asm) (by rfl) (by with_unfolding_all rfl) (by with_unfolding_all rfl) (by decide) (by rfl) (by decide) (by rfl) (by rfl) (by rfl) ?_)
  k_steps
  refine Stop.into ?_
  have hS1 : (Str.ofString " " ++ Txt.upper z1).length = (Txt.upper z1).length + 1 := by omega
  have hS2 : (Str.ofString " " ++ Txt.upper z2).length = (Txt.upper z2).length + 1 := by omega
  have eq1 : ((((Str.ofString " " ++ Txt.upper z1).length : Int) - 1 + 1 - 0).toNat) = (Txt.upper z1).length + 1 := by omega
  have eq2 : (((Str.ofString " " ++ Txt.upper z2).length : Int) - 1 + 1).toNat = (Txt.upper z2).length + 1 := by omega
  rename News _ _ _ _ => Nb
  rename Obj => oc
  walk_at "mine rng1"
  intro g'
  have hL172 : @Ne Nat (L1 + 1) 172 := by
    obtain ⟨q, hq, e⟩ := hT0.has
    have h1 := l1n q (List.mem_append_left _ hq)
    have h2 : q.1 < L1 + 1 := Nat.lt_add_right 1 h1
    rw [e] at h2
    exact Nat.ne_of_gt h2
  refine' restG_inv (fun i ys nw => ∃ rows, ys = refs rows ∧ nw = rows0 rows ++ ledgerOf Nb ∧ RowsOk rows (ledgerOf Nb) ∧ RowsFn rows i ((Txt.upper z2).length + 1) (fun _ _ => 0)) ?_ ?_ ?_
  · exact ⟨[], rfl, rfl, ⟨List.nodup_nil, fun _ h => (nomatch h)⟩, RowsFn.nil⟩
  · rintro i v ys nw I oI C oC D m₂ h tk E' hi hv ⟨rows, rfl, rfl, hok, hfn⟩ hC hxC F6 N6 off6 ⟨ne1, ne2, ne3⟩
    k_steps
    rename News _ _ _ _ => N7
    rw [eq2] at N7
    rename _ ∧ _ ∧ _ ∧ _ ∧ AllLt _ _ => l7
    obtain ⟨a1, a2, a3, a4, a5⟩ := l7
    refine' gridEnd (t := tk) (Inv := fun i ys nw => ∃ rows, ys = refs rows ∧ nw = rows0 rows ++ ledgerOf Nb ∧ RowsOk rows (ledgerOf Nb) ∧ RowsFn rows i ((Txt.upper z2).length + 1) (fun _ _ => 0)) (q := (Txt.upper z2).length + 1) ?gF N7 ?gS off6 ⟨Nat.ne_of_gt a2, Nat.ne_of_gt a3, Nat.ne_of_gt a4⟩ (fun p hp => Nat.ne_of_lt (kst_ltOf a5 p hp)) rfl hok hfn fun rows' h1 h2 => ⟨rows', rfl, rfl, h1, h2⟩
    (case gF => k_asm)
    (case gS =>
      intro p hp
      rcases List.mem_cons.mp hp with rfl | hp
      · exact .tail _ (.tail _ (.head _))
      · rcases List.mem_cons.mp hp with rfl | hp
        · exact .tail _ (.tail _ (.tail _ (.head _)))
        · rcases List.mem_cons.mp hp with rfl | hp
          · exact .tail _ (.tail _ (.tail _ (.tail _ (.head _))))
          · rcases List.mem_cons.mp hp with rfl | hp
            · exact .head _
            · exact .tail _ (.tail _ (.tail _ (.tail _ (.tail _ hp)))))
  rintro ys nw ⟨rows, rfl, rfl, hok, hfn⟩
  (show LCg.FinA _ _ _ _ _ _ _ _)
  intro D h6 tk6 F6 N6 o6
  have off6 := off1_all o6
  rw [eq1] at hfn
  have hD172 : @Ne Nat D 172 := by
    obtain ⟨q, hq, e⟩ := hT0.has
    have h1 := off6 q (List.mem_append_right _ (.tail _ (.tail _ (.tail _ (List.mem_append_left _ hq)))))
    rw [e] at h1
    exact Ne.symm h1
  have hG0 : GOk D rows (L1 + 1, oc) (x, instObj 192 dx) (dx, edDict lo hi k1 k2 k3 k4 k5 k6 t1 t2 t3 t4 t5 t6 u1 u2 u3 u6) news tabs := ⟨hok.nd, hok.off, fun r hr => Ne.symm (rows0_off' (fun p hp => off6 p (List.mem_append_left _ hp)) r hr), hT0⟩
  k_steps
  refine Stop.into ?_
  k_dflt (refine' for_range (a := 1) (st := 1) (n := (Txt.upper z1).length) [] (fun _ i rest => ∃ rs f tabs', rest = (D, LCg.lst (refs rs)) :: (rows0 rs ++ ((L1 + 1, oc) :: (x, instObj 192 dx) :: (dx, edDict lo hi k1 k2 k3 k4 k5 k6 t1 t2 t3 t4 t5 t6 u1 u2 u3 u6) :: (tabs' ++ news))) ∧ GOk D rs (L1 + 1, oc) (x, instObj 192 dx) (dx, edDict lo hi k1 k2 k3 k4 k5 k6 t1 t2 t3 t4 t5 t6 u1 u2 u3 u6) news tabs' ∧ RowsFn rs ((Txt.upper z1).length + 1) ((Txt.upper z2).length + 1) f ∧
      (∀ a b, a ≤ (Txt.upper z1).length → b ≤ (Txt.upper z2).length → (b = 0 ∧ a ≤ i) → f a b = fwz (spc z1) (spc z2) lo hi a b)) ?fF ?fN ?fh ?fk ?fp ?fs ?fj ?ft ?fd)
  (case fF => k_asm)
  (case fN => k_asm)
  (case fh => exact rfl)
  (case fk => exact rfl)
  (case fp => exact rfl)
  (case fs =>
    k_steps
    walk_at "mine range")
  (case fj => exact ⟨rows, _, tabs, rfl, hG0, hfn, fun a b _ _ hab => by
    obtain ⟨rfl, h0⟩ := hab
    obtain rfl : a = 0 := by omega
    exact fwr_00.symm⟩)
  (case ft =>
    rintro i kv t u rest I oI s5 h7 tk7 hi7 hkv ⟨rs, f, tabs', rfl, hG, hfn7, hsp⟩ off7 hlt F7 N7
    simp only [offW] at F7
    obtain ⟨r0, hr0, hr0l, hr0v⟩ := hfn7.2 (kv - 1).toNat (by omega)
    obtain ⟨r1, hr1, hr1l, hr1v⟩ := hfn7.2 kv.toNat (by omega)
    obtain ⟨t00, h00⟩ := hr0v (0 : Int).toNat (by omega)
    have href0 := refs_at hr0
    have href1 := refs_at hr1
    have hmem0 := row0_mem hr0
    have hmem1 := row0_mem hr1
    have hnd := hG.nd
    have hP := hG.post
    have hDr := hG.offD
    have hok' := hG.tok
    have h172 := hG.h172
    have hI : ∀ r ∈ rs, @Ne Nat I r.1 := fun r hr => Ne.symm (rows0_off' (fun p hp => off7 p (.tail _ (List.mem_append_left _ hp))) r hr)
    have hU : TOff [(I, oI)] tabs' := fun p hp q hq => by
      have : q = (I, oI) := by simpa using hq
      rw [this]
      exact off7 p (.tail _ (List.mem_append_right _ (.tail _ (.tail _ (.tail _ (List.mem_append_left _ hp))))))
    have hI172 : @Ne Nat I 172 := by
      obtain ⟨q, hq, e⟩ := hok'.has
      have h1 := hU q hq _ (.head _)
      rw [e] at h1
      exact Ne.symm h1
    k_steps
    rename TOff _ _ => hU1
    refine' ⟨_, _, _, _, rfl, ?jF, ?jN, ?jO, ⟨rs.set kv.toNat (r1.1, r1.2.set (0 : Int).toNat (.int _ _)), _, _, by rw [refs_set hr1], ?jG, hfn7.set hr1 ?jL _ _, ?jS⟩, ?jM⟩
    (case jF => k_asm)
    (case jN => walk_at "mine led")
    (case jG => exact GOk.set (by assumption) hr1 _)
    (case jL => omega)
    (case jM => walk_at "mine off")
    (case jO => exact off_rest off7 (map_fst_set rs _ r1 hr1 _) fun p hp => hU1 p hp _ (.head _))
    (case jS => exact cell_step hsp (col_val (by omega) (hsp _ _ (by omega) (by omega) ⟨rfl, Nat.le_refl _⟩)) fun a b hab => by omega))
  (case fd =>
    rintro u rest h8 tk8 ⟨rs, f, tabs', rfl, hG, hfn7, hsp⟩ F8 N8
    simp only [offW] at F8
    k_steps
    refine Stop.into ?_
    k_dflt (refine' for_range (a := 1) (st := 1) (n := (Txt.upper z2).length) [] (fun _ j rest => ∃ rs f tabs', rest = (D, LCg.lst (refs rs)) :: (rows0 rs ++ ((L1 + 1, oc) :: (x, instObj 192 dx) :: (dx, edDict lo hi k1 k2 k3 k4 k5 k6 t1 t2 t3 t4 t5 t6 u1 u2 u3 u6) :: (tabs' ++ news))) ∧ GOk D rs (L1 + 1, oc) (x, instObj 192 dx) (dx, edDict lo hi k1 k2 k3 k4 k5 k6 t1 t2 t3 t4 t5 t6 u1 u2 u3 u6) news tabs' ∧ RowsFn rs ((Txt.upper z1).length + 1) ((Txt.upper z2).length + 1) f ∧
      (∀ a b, a ≤ (Txt.upper z1).length → b ≤ (Txt.upper z2).length → (b = 0 ∨ (a = 0 ∧ b ≤ j)) → f a b = fwz (spc z1) (spc z2) lo hi a b)) ?gF ?gN ?gh ?gk ?gp ?gs ?gj ?gt ?gd)
    (case gF => k_asm)
    (case gN => k_asm)
    (case gh => exact rfl)
    (case gk => exact rfl)
    (case gp => exact rfl)
    (case gs =>
      k_steps
      walk_at "mine range")
    (case gj => exact ⟨rs, f, tabs', rfl, hG, hfn7, fun a b ha hb hab => hsp a b ha hb (by omega)⟩)
    (case gt =>
      rintro j kv t u rest I oI s5 h7 tk7 hi7 hkv ⟨rs, f, tabs', rfl, hG, hfn7, hsp⟩ off7 hlt F7 N7
      simp only [offW] at F7
      obtain ⟨r0, hr0, hr0l, hr0v⟩ := hfn7.2 (0 : Int).toNat (by omega)
      obtain ⟨t00, h00⟩ := hr0v (kv - 1).toNat (by omega)
      have href0 := refs_at hr0
      have hmem0 := row0_mem hr0
      have hnd := hG.nd
      have hP := hG.post
      have hDr := hG.offD
      have hok' := hG.tok
      have h172 := hG.h172
      have hI : ∀ r ∈ rs, @Ne Nat I r.1 := fun r hr => Ne.symm (rows0_off' (fun p hp => off7 p (.tail _ (List.mem_append_left _ hp))) r hr)
      have hU : TOff [(I, oI)] tabs' := fun p hp q hq => by
        have : q = (I, oI) := by simpa using hq
        rw [this]
        exact off7 p (.tail _ (List.mem_append_right _ (.tail _ (.tail _ (.tail _ (List.mem_append_left _ hp))))))
      have hI172 : @Ne Nat I 172 := hU.not172 hok' _ (.head _)
      k_steps
      rename TOff _ _ => hU1
      refine' ⟨_, _, _, _, rfl, ?lF, ?lN, ?lO, ⟨rs.set (0 : Int).toNat (r0.1, r0.2.set kv.toNat (.int _ _)), _, _, by rw [refs_set hr0], ?lG, hfn7.set hr0 ?lL _ _, ?lS⟩, ?lM⟩
      (case lF => k_asm)
      (case lN => walk_at "mine led")
      (case lG => exact GOk.set (by assumption) hr0 _)
      (case lL => omega)
      (case lM => walk_at "mine off")
      (case lO => exact off_rest off7 (map_fst_set rs _ r0 hr0 _) fun p hp => hU1 p hp _ (.head _))
      (case lS => exact cell_step hsp (row_val (by omega) (hsp _ _ (by omega) (by omega) (.inr ⟨rfl, Nat.le_refl _⟩))) fun a b hab => by omega))
    (case gd =>
      rintro u rest h8 tk8 ⟨rs, f, tabs', rfl, hG, hfn7, hsp⟩ F8 N8
      simp only [offW] at F8
      k_steps
      refine Stop.into ?_
      k_dflt (refine' for_enum (x := (Str.ofString " " ++ Txt.upper z1)) (y := Txt.slice (Str.ofString " " ++ Txt.upper z1) (some 1) none) [Str.ofString "j", Str.ofString "cs2_prev", Str.ofString "cs2_curr"] (fun _ i rest => ∃ rs f tabs', rest = (D, LCg.lst (refs rs)) :: (rows0 rs ++ ((L1 + 1, oc) :: (x, instObj 192 dx) :: (dx, edDict lo hi k1 k2 k3 k4 k5 k6 t1 t2 t3 t4 t5 t6 u1 u2 u3 u6) :: (tabs' ++ news))) ∧ GOk D rs (L1 + 1, oc) (x, instObj 192 dx) (dx, edDict lo hi k1 k2 k3 k4 k5 k6 t1 t2 t3 t4 t5 t6 u1 u2 u3 u6) news tabs' ∧ RowsFn rs ((Txt.upper z1).length + 1) ((Txt.upper z2).length + 1) f ∧
      (∀ a b, a ≤ (Txt.upper z1).length → b ≤ (Txt.upper z2).length → (b = 0 ∨ a = 0 ∨ a ≤ i) → f a b = fwz (spc z1) (spc z2) lo hi a b)) ?oF ?oN ?oh ?oa ?ob ?oc ?op ?ol ?os ?oj ?ot ?od)
      (case oF => k_asm)
      (case oN => k_asm)
      (case oh => exact rfl)
      (case oa => exact rfl)
      (case ob => exact rfl)
      (case oc => exact rfl)
      (case op => exact rfl)
      (case ol => exact slice1_size _ (by omega))
      (case oj => exact ⟨rs, f, tabs', rfl, hG, hfn7, fun a b ha hb hab => hsp a b ha hb (by omega)⟩)
      (case os =>
        k_steps
        refine callWith_typeK ?_
        k_steps
        refine call_zip_strs fun h' hz hTI hTO h1 h2 hsz hk => ?_
        k_steps
        refine call_enum_zip ⟨_, _, _, hz⟩ ?_
        refine' enumSrc ?sa1 ?sa2 hz hTI hTO h1 h2 hsz hk ?sa3
        (case sa1 => k_asm)
        (case sa2 => k_asm)
        (case sa3 => exact rfl))
      (case ot =>
        rintro i c1 c2 v0 v1 v2 u rest own s5 h7 tk7 hi7 hc1 hc2 ⟨rs0, f, tabs', rfl, hG, hfn7, hsp⟩ off7 hlt F7 N7
        simp only [offW] at F7
        rw [slice1_len _ (by omega)] at hi7
        rw [slice1_get _ (by omega)] at hc2
        have ec1 := item_get hc1
        have ec2 := item_get hc2
        k_steps
        refine Stop.into ?_
        k_dflt (refine' for_enum (x := (Str.ofString " " ++ Txt.upper z2)) (y := Txt.slice (Str.ofString " " ++ Txt.upper z2) (some 1) none) [] (fun _ j rest => ∃ rs f tabs', rest = own ++ ((D, LCg.lst (refs rs)) :: (rows0 rs ++ ((L1 + 1, oc) :: (x, instObj 192 dx) :: (dx, edDict lo hi k1 k2 k3 k4 k5 k6 t1 t2 t3 t4 t5 t6 u1 u2 u3 u6) :: (tabs' ++ news)))) ∧ GOk D rs (L1 + 1, oc) (x, instObj 192 dx) (dx, edDict lo hi k1 k2 k3 k4 k5 k6 t1 t2 t3 t4 t5 t6 u1 u2 u3 u6) news tabs' ∧ RowsFn rs ((Txt.upper z1).length + 1) ((Txt.upper z2).length + 1) f ∧ rs.map (·.1) = rs0.map (·.1) ∧ TOff own tabs' ∧
      (∀ a b, a ≤ (Txt.upper z1).length → b ≤ (Txt.upper z2).length → (b = 0 ∨ a = 0 ∨ a ≤ i ∨ (a = i + 1 ∧ b ≤ j)) → f a b = fwz (spc z1) (spc z2) lo hi a b)) ?iF ?iN ?ih ?ia ?ib ?ic ?ip ?il ?is ?ij ?it ?id)
        (case iF => k_asm)
        (case iN => k_asm)
        (case ih => exact rfl)
        (case ia => exact rfl)
        (case ib => exact rfl)
        (case ic => exact rfl)
        (case ip => exact rfl)
        (case il => exact slice1_size _ (by omega))
        (case ij => exact ⟨rs0, f, tabs', rfl, hG, hfn7, rfl, fun p hp q hq => off7 p (.tail _ (List.mem_append_right _ (.tail _ (.tail _ (.tail _ (List.mem_append_left _ hp)))))) q hq, fun a b ha hb hab => hsp a b ha hb (by omega)⟩)
        (case is =>
          k_steps
          refine callWith_typeK ?_
          k_steps
          refine call_zip_strs fun h' hz hTI hTO h1 h2 hsz hk => ?_
          k_steps
          refine call_enum_zip ⟨_, _, _, hz⟩ ?_
          refine' enumSrc ?ta1 ?ta2 hz hTI hTO h1 h2 hsz hk ?ta3
          (case ta1 => k_asm)
          (case ta2 => k_asm)
          (case ta3 => exact rfl))
        (case it =>
          rintro j d1 d2 w0 w1 w2 u' rest own2 s6 h9 tk9 hj9 hd1 hd2 ⟨rs, f, tabs', rfl, hG, hfn7, hmap, hTO, hsp⟩ off9 hlt9 F9 N9
          simp only [offW] at F9
          rw [slice1_len _ (by omega)] at hj9
          rw [slice1_get _ (by omega)] at hd2
          have ed1 := item_get hd1
          have ed2 := item_get hd2
          obtain ⟨r0, hr0, hr0l, hr0v⟩ := hfn7.2 ((i : Int) + 1 - 1).toNat (by omega)
          obtain ⟨r1, hr1, hr1l, hr1v⟩ := hfn7.2 ((i : Int) + 1).toNat (by omega)
          obtain ⟨tA, hA⟩ := hr0v ((j : Int) + 1).toNat (by omega)
          obtain ⟨tB, hB⟩ := hr1v ((j : Int) + 1 - 1).toNat (by omega)
          obtain ⟨tC, hC⟩ := hr0v ((j : Int) + 1 - 1).toNat (by omega)
          have href0 := refs_at hr0
          have href1 := refs_at hr1
          have hmem0 := row0_mem hr0
          have hmem1 := row0_mem hr1
          have hnd := hG.nd
          have hP := hG.post
          have hDr := hG.offD
          have hok' := hG.tok
          have h172 := hG.h172
          have hV : TOff2 own2 own tabs' := ⟨fun p hp q hq => off9 p (List.mem_append_right _ (.tail _ (List.mem_append_right _ (.tail _ (.tail _ (.tail _ (List.mem_append_left _ hp))))))) q hq, hTO⟩
          have hq2 : ∀ p ∈ own2, p.1 ≠ (172 : Nat) := hV.one.not172 hok'
          have hq1 : ∀ p ∈ own, p.1 ≠ (172 : Nat) := hV.two.not172 hok'
          have hr2 : ∀ r ∈ rs, ∀ p ∈ own2, p.1 ≠ r.1 := fun r hr p hp => Ne.symm (off9 (r.1, lst0 r.2) (List.mem_append_right _ (.tail _ (List.mem_append_left _ (List.mem_map.mpr ⟨r, hr, rfl⟩)))) p hp)
          have hr3 : ∀ r ∈ rs, ∀ p ∈ own, p.1 ≠ r.1 := fun r hr p hp => by
            have h1 : r.1 ∈ rs.map (·.1) := List.mem_map.mpr ⟨r, hr, rfl⟩
            rw [hmap] at h1
            obtain ⟨r', hr', e'⟩ := List.mem_map.mp h1
            rw [← e']
            exact Ne.symm (off7 (r'.1, lst0 r'.2) (.tail _ (List.mem_append_left _ (List.mem_map.mpr ⟨r', hr', rfl⟩))) p hp)
          k_steps
          rename TOff2 _ _ _ => hV3
          refine' ⟨_, _, _, _, rfl, ?kF, ?kN, ?kO, ⟨rs.set ((i : Int) + 1).toNat (r1.1, r1.2.set ((j : Int) + 1).toNat (.int _ _)), _, _, by rw [refs_set hr1], ?kG, hfn7.set hr1 ?kL _ _, (map_fst_set rs _ r1 hr1 _).trans hmap, hV3.two, ?kS⟩, ?kM⟩
          (case kF => k_asm)
          (case kN => walk_at "mine led")
          (case kG => exact GOk.set (by assumption) hr1 _)
          (case kL => omega)
          (case kM => walk_at "mine off5")
          (case kO =>
            intro p hp q hq
            rcases List.mem_append.mp hp with hp | hp
            · exact off9 p (List.mem_append_left _ hp) q hq
            · exact off_rest (fun p hp => off9 p (List.mem_append_right _ hp) q hq) (map_fst_set rs _ r1 hr1 _) (fun p hp => hV3.one p hp q hq) p hp)
          (case kS => exact cell_step hsp (in_val ec1 ec2 ed1 ed2 (hsp _ _ (by omega) (by omega) (by omega)) (hsp _ _ (by omega) (by omega) (by omega)) (hsp _ _ (by omega) (by omega) (by omega))) fun a b hab => by omega))
        (case id =>
          rintro u' rest h9 tk9 ⟨rs, f, tabs', rfl, hG, hfn7, hmap, hTO, hsp⟩ F9 N9
          simp only [offW] at F9
          have eL := slice1_len (Str.ofString " " ++ Txt.upper z2) (by omega)
          k_steps
          refine' ⟨_, _, _, _, rfl, ?mF, ?mN, fun p hp q hq => off_rest (fun p hp => off7 p hp q hq) hmap (fun p hp => hTO p hp q hq) p hp, ⟨rs, f, tabs', rfl, hG, hfn7, fun a b ha hb hab => hsp a b ha hb (by omega)⟩, ?mM⟩
          (case mF => k_asm)
          (case mN => walk_at "mine led")
          (case mM => walk_at "mine off5")))
      (case od =>
        rintro u rest h8 tk8 ⟨rs, f, tabs', rfl, hG, hfn7, hsp⟩ F8 N8
        simp only [offW] at F8
        have eL := slice1_len (Str.ofString " " ++ Txt.upper z1) (by omega)
        obtain ⟨r0, hr0, hr0l, hr0v⟩ := hfn7.2 (((Str.ofString " " ++ Txt.upper z1).length : Int) - 1).toNat (by omega)
        obtain ⟨tA, hA⟩ := hr0v (((Str.ofString " " ++ Txt.upper z2).length : Int) - 1).toNat (by omega)
        have href0 := refs_at hr0
        have hmem0 := row0_mem hr0
        have efin : f (((Str.ofString " " ++ Txt.upper z1).length : Int) - 1).toNat (((Str.ofString " " ++ Txt.upper z2).length : Int) - 1).toNat = fwz (spc z1) (spc z2) lo hi (Txt.upper z1).length (Txt.upper z2).length := by
          rw [show (((Str.ofString " " ++ Txt.upper z1).length : Int) - 1).toNat = (Txt.upper z1).length by omega, show (((Str.ofString " " ++ Txt.upper z2).length : Int) - 1).toNat = (Txt.upper z2).length by omega]
          exact hsp _ _ (by omega) (by omega) (by omega)
        k_steps
        refine' cast_ret ?zE (hret _ tabs' _ _ hG.tok ?zF ?zN)
        (case zE => rw [callV_some hne, efin])
        (case zF => k_asm)
        (case zN => first | k_asm | (refine' cb_drop ?cbN ?cbS; (case cbN => assumption); (case cbS => kcj_all))))))

end Mine

-- MDist
namespace Mine
open PySem PySem.W PySem.Calls PyProof.Rows
local macro_rules | `(tactic| walk_at "mine enter") => `(tactic| (refine' code_def ?k1 ?k2 ?k3 ?k4 ?k5 ?kA ?kF ?kK ?k6 ?k7 ?k8 ?k9 ?kB ?_ ?c2 ?c3 ?c4 ?c5; (case kA => exact rfl); (case kF => exact rfl); (case kK => assumption); (case k1 => k_asm); (case k2 => k_asm); (case k3 => k_asm); (case k4 => k_asm); (case k5 => k_asm); (case k6 => k_is); (case k7 => k_is); (case k8 => ktr_room); (case k9 => first | exact BindsTo.of_eq rfl | exact binds_K (by k_in) rfl (by k_is) rfl rfl rfl); (case c5 => decide); (case kB => exact locs rfl); (case c2 => exact rfl); (case c3 => exact rfl); (case c4 => exact rfl); k_whole; intro g' L' h' FG' F' N' B' X' T'; (try dsimp only); (try k_lift B'); (try k_fold)))
local macro_rules | `(tactic| walk_at "mine enterC") => `(tactic| (refine' code_defC ?k1 ?k2 ?k3 ?k4 ?k5 ?kA ?kF ?kK ?k6 ?k7 ?k8 ?k9 ?kB ?kD ?_ ?c2 ?c3 ?c4; (case kA => exact rfl); (case kF => exact rfl); (case kK => assumption); (case k1 => k_asm); (case k2 => k_asm); (case k3 => k_asm); (case k4 => k_asm); (case k5 => k_asm); (case k6 => k_is); (case k7 => k_is); (case k8 => ktr_room); (case k9 => exact BindsTo.of_eq rfl); (case kB => exact rfl); (case kD => decide +kernel); (case c2 => exact rfl); (case c3 => exact rfl); (case c4 => exact rfl); k_whole; intro g' L' h' tk' cells' FG' F' N' Y' B' X' T' l1; (try k_lt l1); k_cells Y'; (try simp only [List.cons_append, List.nil_append] at N'); (try dsimp only); (try k_lift B'); (try k_fold)))
local macro_rules | `(tactic| walk_at "mine enterR") => `(tactic| (refine' kp_rest ?k1 ?k2 ?k3 ?k4 ?k5 ?kA ?kF ?kK ?k6 ?k7 ?k8 ?kV ?kP ?kG ?kB ?_ ?c2 ?c3 ?c4 ?c5; (case kA => exact rfl); (case kF => exact rfl); (case kK => assumption); (case k1 => k_asm); (case k2 => k_asm); (case k3 => k_asm); (case k4 => k_asm); (case k5 => k_asm); (case k6 => k_is); (case k7 => k_is); (case k8 => ktr_room); (case kV => kl_lit); (case kP => exact rfl); (case kG => exact fun _ => rfl); (case kB => exact fun _ => locs rfl); (case c5 => decide); (case c2 => exact rfl); (case c3 => exact rfl); (case c4 => exact rfl); k_whole; intro D' g' L' h' l1 FG' F' N' B' X' T'; (try k_lt l1); (try dsimp only); (try k_lift B'); (try k_fold)))
local macro_rules | `(tactic| walk_at "mine enterRC") => `(tactic| (refine' rest_cells ?k1 ?k2 ?k3 ?k4 ?k5 ?kA ?kF ?kK ?k6 ?k7 ?k8 ?kV ?kP ?kG ?kB ?kD ?_ ?c2 ?c3 ?c4; (case kA => exact rfl); (case kF => exact rfl); (case kK => assumption); (case k1 => k_asm); (case k2 => k_asm); (case k3 => k_asm); (case k4 => k_asm); (case k5 => k_asm); (case k6 => k_is); (case k7 => k_is); (case k8 => ktr_room); (case kV => kl_lit); (case kP => exact rfl); (case kG => exact fun _ => rfl); (case kB => exact fun _ => rfl); (case kD => decide +kernel); (case c2 => exact rfl); (case c3 => exact rfl); (case c4 => exact rfl); k_whole; intro D' g' L' h' tk' cells' l0 lD FG' F' N' Y' B' X' T' l1; (try k_lt l0); (try k_lt l1); k_cells Y'; (try simp only [List.cons_append, List.nil_append] at N'); (try dsimp only); (try k_lift B'); (try k_fold)))

local macro_rules | `(tactic| walk_at "eval Call Attribute") => `(tactic| (k_here; (with_reducible show wpAny _ _ (eval (Expr.Call (Expr.Attribute (Expr.Name _ _) _ _) [Expr.Starred _ _] [] _) _) _ _ _); refine starCall_ ?_))
local macro_rules | `(tactic| walk_at "getAttr ref") => `(tactic| (k_here; (with_reducible show wpAny _ _ (getAttr _ (Str.ofString "_ident") _) _ _ _); k_dflt (refine' get_sm ?k1 ?k2 ?k4 ?k5 ?k6 ?k7 ?k9 ?k10 ?k11 ?k12 ?k13 ?k14 ?_; (case k1 => k_asm); (case k2 => k_asm); (case k4 => k_inst); (case k5 => k_is); (case k6 => k_is); (case k7 => k_is); (case k9 => k_is); (case k10 => k_is); (case k11 => decide +kernel); (case k12 => k_get); (case k13 => k_is); (case k14 => k_handed); k_whole)))
local macro_rules | `(tactic| walk_at "callWith ref") => `(tactic| (k_here; (with_reducible show wpAny _ _ (callWith _ (Value.ref _) [] (backTo _ (starEach [Expr.Starred _ _] _)) []) _ _ _); k_dflt (first
  | (refine' callWith_S ?k1 ?k2 ?_; (case k1 => k_asm); (case k2 => k_is); k_whole)
  | (refine' callWith_SM ?kX ?k1 ?k2 ?k3 ?_; (case kX => assumption); (case k1 => k_asm); (case k2 => k_mem); (case k3 => k_is); k_whole)
  | (refine' callWith_SC ?k1 ?k2 ?_; (case k1 => k_inst); (case k2 => exact rfl); k_whole))))

local macro_rules | `(tactic| k_all) => `(tactic| assumption)
local macro_rules | `(tactic| k_room) => `(tactic| ktr_room)
local macro_rules | `(tactic| k_mem) => `(tactic| exact List.mem_append.mpr (.inl (by assumption)))
local macro_rules | `(tactic| walk_at "mine seg") => `(tactic| (first | (refine' SegF.here ?sgC; (case sgC => assumption)) | (refine' SegF.there ?sgA ?sgB; (case sgA => k_ne); (case sgB => walk_at "mine seg"))))
local macro_rules | `(tactic| walk_at "eval Lambda") => `(tactic| (k_here; k_dflt (refine' lam_evalT ?F ?N ?T ?C ?S ?hT ?hN ?hd ?hcl ?_; (case F => k_asm); (case N => k_asm); (case T => k_asm); (case C => kn_code); (case S => walk_at "mine seg"); (case hT => assumption); (case hN => kcj_all); (case hd => exact rfl); (case hcl => exact rfl); k_whole); intro f' c' oc' vs' t' ct' tabs' h' tk' F' N' hT' hm' d1' d2' l1 lt'; (try dsimp only at N'); (try k_lt l1)))
local macro_rules | `(tactic| walk_at "call type:map") => `(tactic| (k_here; (with_reducible show wpAny _ _ (call (Value.type "map") [_, Value.ref _]) _ _ _); k_dflt (refine' call_map_N ?k1 ?k2 ?k3 ?_; (case k1 => k_asm); (case k2 => k_asm); (case k3 => k_mem); k_whole); intro I' h' F' N' l1; (try k_lt l1)))

theorem callWith_SCX {M : Model} {A : Around} {E : Value → Shared → Prop} {s : Shared} {K : Frag} {env : Env} {pos p : Pos} {Q : Value → Shared → Prop} {h₀ : Heap} {e : Expr} {x C : Addr} {ox : Obj} {od : Option Obj} (_X : K.In h₀) (I : InstAt s.heap x ox C od) (hd : ox.data = .plain)
    (h : wpAny M A (eval e env) (fun v s₁ => StarOf M A E v (fun vs s₂ => kco_P K x C ox od s₂.heap ∧ wpAny M A (call (.ref x) vs) Q E s₂) s₁) E s)
    (he : starEach [.Starred e p] env = [(true, eval e env)] := by rfl) :
    wpAny M A (callWith pos (.ref x) [] (backTo pos (starEach [.Starred e p] env)) []) Q E s := callWith_SC (K := K) I hd h he
local macro_rules | `(tactic| walk_at "callWith ref") => `(tactic| (k_here; (with_reducible show wpAny _ _ (callWith _ (Value.ref _) [] (backTo _ (starEach [Expr.Starred _ _] _)) []) _ _ _); k_dflt (first
  | (refine' callWith_S ?k1 ?k2 ?_; (case k1 => k_asm); (case k2 => k_is); k_whole)
  | (refine' callWith_SM ?kX ?k1 ?k2 ?k3 ?_; (case kX => assumption); (case k1 => k_asm); (case k2 => k_mem); (case k3 => k_is); k_whole)
  | (refine' callWith_SCX ?kX ?k1 ?k2 ?_; (case kX => assumption); (case k1 => k_inst); (case k2 => exact rfl); k_whole))))

theorem call_any {w : World} {p : Program} {loose : List Str} {mean : ExcName → Option Value} {mg mb : Str → Option Value} 
   {dp un : Nat} {gd : Option (List Code)} {cn : Str} {cs : Scope} {a : Addr} {ccd : Value} {cl : List (Str × Addr)} {outer : List Env} {A₀ : Around} {base h₀ : Heap} {L : Addr} {m : Str → Option Value} {s : Shared} {R : Result → Shared → Prop} {lo hi : Int} {k1 k2 k3 k4 k5 k6 : Int} {t1 t2 t3 t4 t5 t6 u1 u2 u3 u6 : Tok} {x dx : Addr} {z1 z2 : Str} {tx ty : Tok} {tabs led : List (Addr × Obj)} {g : List (Addr × Obj) → List (Addr × Obj)}
   (B : Below A₀ base outer h₀) (F : Fr h₀ L s.heap m) (X : (hd.heap_39 w.params).In h₀) (N : News h₀ L s.heap led) (T : Top p loose mean mg mb h₀) (hck : cs.kind = .function)
   (hroom : dp + 10 < recursionLimit) (hunits : un + 240 < cLine) (codeHd : CodeHd base 176 172) (hx1 : @LT.lt Nat _ dx x) (hx2 : @LT.lt Nat _ 172 dx)
   (S : SegF tabs led g) (mi : (x, instObj 192 dx) ∈ g []) (md : (dx, edDict lo hi k1 k2 k3 k4 k5 k6 t1 t2 t3 t4 t5 t6 u1 u2 u3 u6) ∈ g []) (hT0 : TabsOk lamQ tabs) (hz1 : z1.length ≤ 16) (hz2 : z2.length ≤ 16)
   (hret : ∀ t tabs' h' tk', TabsOk lamQ tabs' → Fr h₀ L h' m → News h₀ L h' (g tabs') → R (.ok (.ret (.int (callV z1 z2 lo hi) t))) { s with heap := h', toks := tk' }) :
   codeAny (model PySem.Challenge.rw_br0031_01.row.prog w) (ktrTop dp un gd cn cs L a ccd cl outer) (.call (.ref 189) ⟨[.ref x, .str z1 tx, .str z2 ty], []⟩) R s := by
  obtain ⟨own, rest, rfl, hg, h1, h2⟩ := S.split
  have e0 : g [] = own ++ rest := by rw [hg]; rfl
  rw [e0] at mi md
  refine call_spec (x := x) (dx := dx) (tabs := tabs) (lo := lo) (hi := hi) (k1 := k1) (k2 := k2) (k3 := k3) (k4 := k4) (k5 := k5) (k6 := k6) (t1 := t1) (t2 := t2) (t3 := t3) (t4 := t4) (t5 := t5) (t6 := t6) (u1 := u1) (u2 := u2) (u3 := u3) (u6 := u6) (news := own ++ rest) B F X (cb_drop N fun p hp => ?_) T hck hroom hunits codeHd hx1 hx2 (fun p hp => ?_) hT0 hz1 hz2 fun t tabs' h' tk' hO F' N' => hret t tabs' h' tk' hO F' (?_ : News h₀ L h' (g tabs'))
  · simp only [List.mem_cons, List.mem_append] at hp mi md ⊢
    rcases hp with rfl | rfl | hp | hp | hp
    · rcases mi with h | h
      · exact .inl h
      · exact .inr (.inr h)
    · rcases md with h | h
      · exact .inl h
      · exact .inr (.inr h)
    · exact .inr (.inl hp)
    · exact .inl hp
    · exact .inr (.inr hp)
  · rcases List.mem_append.mp hp with hp | hp
    · exact h1 p hp
    · exact h2 p hp
  · rw [hg]
    refine cb_drop N' fun p hp => ?_
    simp only [List.mem_cons, List.mem_append] at hp ⊢
    rcases hp with hp | hp | hp
    · exact .inr (.inr (.inr (.inl hp)))
    · exact .inr (.inr (.inl hp))
    · exact .inr (.inr (.inr (.inr hp)))

local macro_rules | `(tactic| walk_at "mine spec") => `(tactic| first | (refine' call_any ?k1 ?k2 ?k3 ?k4 ?k5 ?kK ?kd ?ku ?c1 ?c2 ?c3 ?c4 ?c5 ?c6 ?c7 ?c8 ?c9 ?_; (case k1 => k_asm); (case k2 => k_asm); (case k3 => k_asm); (case k4 => k_asm); (case k5 => k_asm); (case kK => first | exact rfl | assumption); (case kd => ktr_room); (case ku => ktr_units); (case c1 => assumption); (case c2 => assumption); (case c3 => assumption); (case c4 => walk_at "mine seg"); (case c5 => (first | kcf_m | k_mem)); (case c6 => (first | kcf_m | k_mem)); (case c7 => assumption); (case c8 => omega); (case c9 => omega); k_whole; intro t' tabs' h' tk' hO' F' N'; (try simp only [List.cons_append, List.nil_append] at N')))
local macro_rules | `(tactic| walk_at "call ref") => `(tactic| (k_here; k_dflt (first | (refine wpAny_call ?_; walk_at "mine spec") | (refine call_meth (by k_asm) (by k_mem) ?_; walk_at "mine spec")); (try dsimp only); (try k_fold)))

local macro_rules | `(tactic| walk_at "call ref") => `(tactic| (k_here; k_dflt (first | (refine wpAny_call ?_; walk_at "mine spec") | (refine call_meth (by k_asm) (by k_mem) ?_; walk_at "mine spec") | (refine wpAny_call ?_; refine' kco_code ?q1 ?q2 ?q3 ?q4 ?q5 ?q6 ?_; (case q1 => k_in); (case q2 => k_inst); (case q3 => rfl); (case q4 => k_is); (case q5 => k_is); (case q6 => k_is); (try dsimp only); walk_at "mine spec")); (try dsimp only); (try k_fold)))
local macro_rules | `(tactic| k_mem) => `(tactic| kcf_m)
local macro_rules | `(tactic| walk_at "mine seg") => `(tactic| (first | (refine' SegF.here ?sgC; (case sgC => assumption)) | (refine' SegF.there ?sgA ?sgB; (case sgA => (first | assumption | k_ne)); (case sgB => walk_at "mine seg")) | (refine' SegF.app _ ?sgA ?sgB; (case sgA => assumption); (case sgB => walk_at "mine seg"))))

set_option maxRecDepth 100000 in
set_option maxHeartbeats 8000000 in
theorem dist_spec {w : World} {p : Program} {loose : List Str} {mean : ExcName → Option Value} {mg mb : Str → Option Value} {news : List (Addr × Obj)}
   {dp un : Nat} {gd : Option (List Code)} {cn : Str} {cs : Scope} {a : Addr} {ccd : Value} {cl : List (Str × Addr)} {outer : List Env} {A₀ : Around} {base h₀ : Heap} {L : Addr} {m : Str → Option Value} {s : Shared} {R : Result → Shared → Prop} {lo hi : Int} {k1 k2 k3 k4 k5 k6 : Int} {t1 t2 t3 t4 t5 t6 u1 u2 u3 u6 : Tok} {x dx : Addr} {z1 z2 : Str} {tx ty : Tok} {tabs : List (Addr × Obj)}
   (B : Below A₀ base outer h₀) (F : Fr h₀ L s.heap m) (X : (hd.heap_39 w.params).In h₀) (N : News h₀ L s.heap ((x, instObj 192 dx) :: (dx, edDict lo hi k1 k2 k3 k4 k5 k6 t1 t2 t3 t4 t5 t6 u1 u2 u3 u6) :: (tabs ++ news))) (T : Top p loose mean mg mb h₀) (hck : cs.kind = .function)
   (hroom : dp + 12 < recursionLimit) (hunits : un + 260 < cLine) (codeHd : CodeHd base 176 172) (hx1 : @LT.lt Nat _ dx x) (hx2 : @LT.lt Nat _ 172 dx) (hoff : ∀ p ∈ news, p.1 ≠ 172) (hT0 : TabsOk lamQ tabs) (hx : z1.length ≤ 16) (hy : z2.length ≤ 16)
   (hret : ∀ t tabs' h' tk', TabsOk lamQ tabs' → Fr h₀ L h' m → News h₀ L h' ((x, instObj 192 dx) :: (dx, edDict lo hi k1 k2 k3 k4 k5 k6 t1 t2 t3 t4 t5 t6 u1 u2 u3 u6) :: (tabs' ++ news)) → R (.ok (.ret (.int (callV z1 z2 lo hi) t))) { s with heap := h', toks := tk' }) :
   codeAny (model PySem.Challenge.rw_br0031_01.row.prog w) (ktrTop dp un gd cn cs L a ccd cl outer) (.call (.ref 60) ⟨[.ref x, .str z1 tx, .str z2 ty], []⟩) R s := by
  w_top off
  revert X; k_fill; intro X
  (walk_at "mine enterR")
  k_steps
  (refine' hret _ _ _ _ ?e1 ?e2 ?e3; (case e1 => assumption); (case e2 => k_asm); (case e3 => first | k_asm | (refine' cb_drop ?cbN ?cbS; (case cbN => assumption); (case cbS => kcj_all))))

theorem dist_any {w : World} {p : Program} {loose : List Str} {mean : ExcName → Option Value} {mg mb : Str → Option Value} 
   {dp un : Nat} {gd : Option (List Code)} {cn : Str} {cs : Scope} {a : Addr} {ccd : Value} {cl : List (Str × Addr)} {outer : List Env} {A₀ : Around} {base h₀ : Heap} {L : Addr} {m : Str → Option Value} {s : Shared} {R : Result → Shared → Prop} {lo hi : Int} {k1 k2 k3 k4 k5 k6 : Int} {t1 t2 t3 t4 t5 t6 u1 u2 u3 u6 : Tok} {x dx : Addr} {z1 z2 : Str} {tx ty : Tok} {tabs led : List (Addr × Obj)} {g : List (Addr × Obj) → List (Addr × Obj)}
   (B : Below A₀ base outer h₀) (F : Fr h₀ L s.heap m) (X : (hd.heap_39 w.params).In h₀) (N : News h₀ L s.heap led) (T : Top p loose mean mg mb h₀) (hck : cs.kind = .function)
   (hroom : dp + 12 < recursionLimit) (hunits : un + 260 < cLine) (codeHd : CodeHd base 176 172) (hx1 : @LT.lt Nat _ dx x) (hx2 : @LT.lt Nat _ 172 dx)
   (S : SegF tabs led g) (mi : (x, instObj 192 dx) ∈ g []) (md : (dx, edDict lo hi k1 k2 k3 k4 k5 k6 t1 t2 t3 t4 t5 t6 u1 u2 u3 u6) ∈ g []) (hT0 : TabsOk lamQ tabs) (hz1 : z1.length ≤ 16) (hz2 : z2.length ≤ 16)
   (hret : ∀ t tabs' h' tk', TabsOk lamQ tabs' → Fr h₀ L h' m → News h₀ L h' (g tabs') → R (.ok (.ret (.int (callV z1 z2 lo hi) t))) { s with heap := h', toks := tk' }) :
   codeAny (model PySem.Challenge.rw_br0031_01.row.prog w) (ktrTop dp un gd cn cs L a ccd cl outer) (.call (.ref 60) ⟨[.ref x, .str z1 tx, .str z2 ty], []⟩) R s := by
  obtain ⟨own, rest, rfl, hg, h1, h2⟩ := S.split
  have e0 : g [] = own ++ rest := by rw [hg]; rfl
  rw [e0] at mi md
  refine dist_spec (x := x) (dx := dx) (tabs := tabs) (lo := lo) (hi := hi) (k1 := k1) (k2 := k2) (k3 := k3) (k4 := k4) (k5 := k5) (k6 := k6) (t1 := t1) (t2 := t2) (t3 := t3) (t4 := t4) (t5 := t5) (t6 := t6) (u1 := u1) (u2 := u2) (u3 := u3) (u6 := u6) (news := own ++ rest) B F X (cb_drop N fun p hp => ?_) T hck hroom hunits codeHd hx1 hx2 (fun p hp => ?_) hT0 hz1 hz2 fun t tabs' h' tk' hO F' N' => hret t tabs' h' tk' hO F' (?_ : News h₀ L h' (g tabs'))
  · simp only [List.mem_cons, List.mem_append] at hp mi md ⊢
    rcases hp with rfl | rfl | hp | hp | hp
    · rcases mi with h | h
      · exact .inl h
      · exact .inr (.inr h)
    · rcases md with h | h
      · exact .inl h
      · exact .inr (.inr h)
    · exact .inr (.inl hp)
    · exact .inl hp
    · exact .inr (.inr hp)
  · rcases List.mem_append.mp hp with hp | hp
    · exact h1 p hp
    · exact h2 p hp
  · rw [hg]
    refine cb_drop N' fun p hp => ?_
    simp only [List.mem_cons, List.mem_append] at hp ⊢
    rcases hp with hp | hp | hp
    · exact .inr (.inr (.inr (.inl hp)))
    · exact .inr (.inr (.inl hp))
    · exact .inr (.inr (.inr (.inr hp)))

local macro_rules | `(tactic| walk_at "mine spec") => `(tactic| first | (refine' dist_any ?k1 ?k2 ?k3 ?k4 ?k5 ?kK ?kd ?ku ?c1 ?c2 ?c3 ?c4 ?c5 ?c6 ?c7 ?c8 ?c9 ?_; (case k1 => k_asm); (case k2 => k_asm); (case k3 => k_asm); (case k4 => k_asm); (case k5 => k_asm); (case kK => first | exact rfl | assumption); (case kd => ktr_room); (case ku => ktr_units); (case c1 => assumption); (case c2 => assumption); (case c3 => assumption); (case c4 => walk_at "mine seg"); (case c5 => (first | kcf_m | k_mem)); (case c6 => (first | kcf_m | k_mem)); (case c7 => assumption); (case c8 => omega); (case c9 => omega); k_whole; intro t' tabs' h' tk' hO' F' N'; (try simp only [List.cons_append, List.nil_append] at N')) | (refine' maximum_any ?k1 ?k2 ?k3 ?k4 ?k5 ?kK ?kd ?ku ?c1 ?c2 ?c3 ?c4 ?_; (case k1 => k_asm); (case k2 => k_asm); (case k3 => k_asm); (case k4 => k_asm); (case k5 => k_asm); (case kK => first | exact rfl | assumption); (case kd => ktr_room); (case ku => ktr_units); (case c1 => omega); (case c2 => omega); (case c3 => (first | kcf_m | k_mem)); (case c4 => (first | kcf_m | k_mem)); k_whole; intro t' h' tk' F' N'))
local macro_rules | `(tactic| walk_at "call ref") => `(tactic| (k_here; k_dflt (first | (refine wpAny_call ?_; walk_at "mine spec") | (refine call_meth (by k_asm) (by k_mem) ?_; walk_at "mine spec")); (try dsimp only); (try k_fold)))

local macro_rules | `(tactic| walk_at "call ref") => `(tactic| (k_here; k_dflt (first | (refine wpAny_call ?_; walk_at "mine spec") | (refine call_meth (by k_asm) (by k_mem) ?_; walk_at "mine spec") | (refine wpAny_call ?_; refine' kco_code ?q1 ?q2 ?q3 ?q4 ?q5 ?q6 ?_; (case q1 => k_in); (case q2 => k_inst); (case q3 => rfl); (case q4 => k_is); (case q5 => k_is); (case q6 => k_is); (try dsimp only); walk_at "mine spec")); (try dsimp only); (try k_fold)))
local macro_rules | `(tactic| k_mem) => `(tactic| kcf_m)
local macro_rules | `(tactic| walk_at "mine seg") => `(tactic| (first | (refine' SegF.here ?sgC; (case sgC => assumption)) | (refine' SegF.there ?sgA ?sgB; (case sgA => (first | assumption | k_ne)); (case sgB => walk_at "mine seg")) | (refine' SegF.app _ ?sgA ?sgB; (case sgA => assumption); (case sgB => walk_at "mine seg"))))

set_option maxRecDepth 100000 in
set_option maxHeartbeats 8000000 in
theorem simi_spec {w : World} {p : Program} {loose : List Str} {mean : ExcName → Option Value} {mg mb : Str → Option Value} {news : List (Addr × Obj)}
   {dp un : Nat} {gd : Option (List Code)} {cn : Str} {cs : Scope} {a : Addr} {ccd : Value} {cl : List (Str × Addr)} {outer : List Env} {A₀ : Around} {base h₀ : Heap} {L : Addr} {m : Str → Option Value} {s : Shared} {R : Result → Shared → Prop} {lo hi : Int} {k1 k2 k3 k4 k5 k6 : Int} {t1 t2 t3 t4 t5 t6 u1 u2 u3 u6 : Tok} {x dx : Addr} {z1 z2 : Str} {tx ty : Tok} {tabs : List (Addr × Obj)}
   (B : Below A₀ base outer h₀) (F : Fr h₀ L s.heap m) (X : (hd.heap_39 w.params).In h₀) (N : News h₀ L s.heap ((x, instObj 192 dx) :: (dx, edDict lo hi k1 k2 k3 k4 k5 k6 t1 t2 t3 t4 t5 t6 u1 u2 u3 u6) :: (tabs ++ news))) (T : Top p loose mean mg mb h₀) (hck : cs.kind = .function)
   (hroom : dp + 14 < recursionLimit) (hunits : un + 300 < cLine) (codeHd : CodeHd base 176 172) (hx1 : @LT.lt Nat _ dx x) (hx2 : @LT.lt Nat _ 172 dx) (hoff : ∀ p ∈ news, p.1 ≠ 172) (hT0 : TabsOk lamQ tabs) (hx : z1.length ≤ 16) (hy : z2.length ≤ 16)
   (hret : ∀ t tabs' h' tk', TabsOk lamQ tabs' → Fr h₀ L h' m → News h₀ L h' ((x, instObj 192 dx) :: (dx, edDict lo hi k1 k2 k3 k4 k5 k6 t1 t2 t3 t4 t5 t6 u1 u2 u3 u6) :: (tabs' ++ news)) → R (.ok (.ret (.int (max (z1.length : Int) (z2.length : Int) * hi - callV z1 z2 lo hi) t))) { s with heap := h', toks := tk' }) :
   codeAny (model PySem.Challenge.rw_br0031_01.row.prog w) (ktrTop dp un gd cn cs L a ccd cl outer) (.call (.ref 67) ⟨[.ref x, .str z1 tx, .str z2 ty], []⟩) R s := by
  w_top off
  revert X; k_fill; intro X
  (walk_at "mine enterR")
  k_steps
  (refine' hret _ _ _ _ ?e1 ?e2 ?e3; (case e1 => assumption); (case e2 => k_asm); (case e3 => first | k_asm | (refine' cb_drop ?cbN ?cbS; (case cbN => assumption); (case cbS => kcj_all))))

theorem simi_any {w : World} {p : Program} {loose : List Str} {mean : ExcName → Option Value} {mg mb : Str → Option Value} 
   {dp un : Nat} {gd : Option (List Code)} {cn : Str} {cs : Scope} {a : Addr} {ccd : Value} {cl : List (Str × Addr)} {outer : List Env} {A₀ : Around} {base h₀ : Heap} {L : Addr} {m : Str → Option Value} {s : Shared} {R : Result → Shared → Prop} {lo hi : Int} {k1 k2 k3 k4 k5 k6 : Int} {t1 t2 t3 t4 t5 t6 u1 u2 u3 u6 : Tok} {x dx : Addr} {z1 z2 : Str} {tx ty : Tok} {tabs led : List (Addr × Obj)} {g : List (Addr × Obj) → List (Addr × Obj)}
   (B : Below A₀ base outer h₀) (F : Fr h₀ L s.heap m) (X : (hd.heap_39 w.params).In h₀) (N : News h₀ L s.heap led) (T : Top p loose mean mg mb h₀) (hck : cs.kind = .function)
   (hroom : dp + 14 < recursionLimit) (hunits : un + 300 < cLine) (codeHd : CodeHd base 176 172) (hx1 : @LT.lt Nat _ dx x) (hx2 : @LT.lt Nat _ 172 dx)
   (S : SegF tabs led g) (mi : (x, instObj 192 dx) ∈ g []) (md : (dx, edDict lo hi k1 k2 k3 k4 k5 k6 t1 t2 t3 t4 t5 t6 u1 u2 u3 u6) ∈ g []) (hT0 : TabsOk lamQ tabs) (hz1 : z1.length ≤ 16) (hz2 : z2.length ≤ 16)
   (hret : ∀ t tabs' h' tk', TabsOk lamQ tabs' → Fr h₀ L h' m → News h₀ L h' (g tabs') → R (.ok (.ret (.int (max (z1.length : Int) (z2.length : Int) * hi - callV z1 z2 lo hi) t))) { s with heap := h', toks := tk' }) :
   codeAny (model PySem.Challenge.rw_br0031_01.row.prog w) (ktrTop dp un gd cn cs L a ccd cl outer) (.call (.ref 67) ⟨[.ref x, .str z1 tx, .str z2 ty], []⟩) R s := by
  obtain ⟨own, rest, rfl, hg, h1, h2⟩ := S.split
  have e0 : g [] = own ++ rest := by rw [hg]; rfl
  rw [e0] at mi md
  refine simi_spec (x := x) (dx := dx) (tabs := tabs) (lo := lo) (hi := hi) (k1 := k1) (k2 := k2) (k3 := k3) (k4 := k4) (k5 := k5) (k6 := k6) (t1 := t1) (t2 := t2) (t3 := t3) (t4 := t4) (t5 := t5) (t6 := t6) (u1 := u1) (u2 := u2) (u3 := u3) (u6 := u6) (news := own ++ rest) B F X (cb_drop N fun p hp => ?_) T hck hroom hunits codeHd hx1 hx2 (fun p hp => ?_) hT0 hz1 hz2 fun t tabs' h' tk' hO F' N' => hret t tabs' h' tk' hO F' (?_ : News h₀ L h' (g tabs'))
  · simp only [List.mem_cons, List.mem_append] at hp mi md ⊢
    rcases hp with rfl | rfl | hp | hp | hp
    · rcases mi with h | h
      · exact .inl h
      · exact .inr (.inr h)
    · rcases md with h | h
      · exact .inl h
      · exact .inr (.inr h)
    · exact .inr (.inl hp)
    · exact .inl hp
    · exact .inr (.inr hp)
  · rcases List.mem_append.mp hp with hp | hp
    · exact h1 p hp
    · exact h2 p hp
  · rw [hg]
    refine cb_drop N' fun p hp => ?_
    simp only [List.mem_cons, List.mem_append] at hp ⊢
    rcases hp with hp | hp | hp
    · exact .inr (.inr (.inr (.inl hp)))
    · exact .inr (.inr (.inl hp))
    · exact .inr (.inr (.inr (.inr hp)))
end Mine

-- MPlain
namespace Mine
open PySem PySem.W PySem.Calls PyProof.Rows PySem.Spec
set_option maxRecDepth 100000
/-- the ways through the table, with what they cost -/
inductive Way (A B : Nat → Int) (P : Nat → Nat → Int) : Nat → Nat → Nat → Nat → Int → Prop
  | nil {i j : Nat} : Way A B P i j i j 0
  | down {i j n m : Nat} {c : Int} : Way A B P (i + 1) j n m c → Way A B P i j n m (A i + c)
  | right {i j n m : Nat} {c : Int} : Way A B P i (j + 1) n m c → Way A B P i j n m (B j + c)
  | diag {i j n m : Nat} {c : Int} : Way A B P (i + 1) (j + 1) n m c → Way A B P i j n m (P i j + c)
section
variable {A B : Nat → Int} {P : Nat → Nat → Int}
theorem Way.cast {i j n m : Nat} {c d : Int} (h : Way A B P i j n m c) (e : c = d) : Way A B P i j n m d := e ▸ h
theorem Way.trans {i j k l n m : Nat} {c d : Int} (h : Way A B P i j k l c) (h2 : Way A B P k l n m d) : Way A B P i j n m (c + d) := by
  induction h with
  | nil => exact h2.cast (by omega)
  | down _ ih => exact (Way.down (ih h2)).cast (by omega)
  | right _ ih => exact (Way.right (ih h2)).cast (by omega)
  | diag _ ih => exact (Way.diag (ih h2)).cast (by omega)
theorem Way.le {i j n m : Nat} {c : Int} (h : Way A B P i j n m c) : i ≤ n ∧ j ≤ m := by
  induction h with
  | nil => exact ⟨Nat.le_refl _, Nat.le_refl _⟩
  | down _ ih => exact ⟨by omega, ih.2⟩
  | right _ ih => exact ⟨ih.1, by omega⟩
  | diag _ ih => exact ⟨by omega, by omega⟩
theorem fwr_way : ∀ i j, Way A B P 0 0 i j (fwr A B P i j)
  | 0, 0 => Way.nil.cast fwr_00.symm
  | i + 1, 0 => ((fwr_way i 0).trans (Way.down Way.nil)).cast (by rw [fwr_col]; omega)
  | 0, j + 1 => ((fwr_way 0 j).trans (Way.right Way.nil)).cast (by rw [fwr_row]; omega)
  | i + 1, j + 1 => by
    have h1 := (fwr_way i (j + 1)).trans (Way.down (A := A) (B := B) (P := P) Way.nil)
    have h2 := (fwr_way (i + 1) j).trans (Way.right (A := A) (B := B) (P := P) Way.nil)
    have h3 := (fwr_way i j).trans (Way.diag (A := A) (B := B) (P := P) Way.nil)
    have e := fwr_in (A := A) (B := B) (P := P) (i := i) (j := j)
    by_cases c1 : fwr A B P (i + 1) (j + 1) = fwr A B P i (j + 1) + A i
    · exact h1.cast (by omega)
    · by_cases c2 : fwr A B P (i + 1) (j + 1) = fwr A B P (i + 1) j + B j
      · exact h2.cast (by omega)
      · exact h3.cast (by omega)
theorem fwr_down (i j : Nat) : fwr A B P (i + 1) j ≤ fwr A B P i j + A i := by
  cases j with
  | zero => rw [fwr_col]; omega
  | succ j => rw [fwr_in]; omega
theorem fwr_right (i j : Nat) : fwr A B P i (j + 1) ≤ fwr A B P i j + B j := by
  cases i with
  | zero => rw [fwr_row]; omega
  | succ i => rw [fwr_in]; omega
theorem fwr_diag (i j : Nat) : fwr A B P (i + 1) (j + 1) ≤ fwr A B P i j + P i j := by rw [fwr_in]; omega
theorem fwr_le {i j n m : Nat} {c : Int} (h : Way A B P i j n m c) : fwr A B P n m ≤ fwr A B P i j + c := by
  induction h with
  | nil => omega
  | @down i j n m c _ ih => have := fwr_down (A := A) (B := B) (P := P) i j; omega
  | @right i j n m c _ ih => have := fwr_right (A := A) (B := B) (P := P) i j; omega
  | @diag i j n m c _ ih => have := fwr_diag (A := A) (B := B) (P := P) i j; omega
end
section
variable {A B : List Int} {P : Nat → Nat → Int} {n m : Nat}
theorem sumFrom_end {l : List Int} : sumFrom l l.length = 0 := by unfold sumFrom; rw [List.drop_length]; rfl
theorem sumFrom_step {l : List Int} {k : Nat} (h : k < l.length) : sumFrom l k = l.getD k 0 + sumFrom l (k + 1) := by
  unfold sumFrom
  rw [List.drop_eq_getElem_cons h, List.sum_cons]
  simp [h]
theorem bwr_0 {b : Nat} : bwr A B P n m 0 b = sumFrom A n + sumFrom B (m - b) := by simp only [bwr]
theorem bwr_s0 {a : Nat} : bwr A B P n m (a + 1) 0 = sumFrom A (n - (a + 1)) + sumFrom B m := by simp only [bwr]
theorem bwr_ss {a b : Nat} : bwr A B P n m (a + 1) (b + 1) = min (min (bwr A B P n m a b + P (n - (a + 1)) (m - (b + 1))) (bwr A B P n m a (b + 1) + A.getD (n - (a + 1)) 0)) (bwr A B P n m (a + 1) b + B.getD (m - (b + 1)) 0) := by simp only [bwr]
abbrev fA (A : List Int) : Nat → Int := fun i => A.getD i 0
theorem way_right (hB : B.length = m) : ∀ b, b ≤ m → Way (fA A) (fA B) P n (m - b) n m (sumFrom B (m - b))
  | 0, _ => Way.nil.cast (by rw [Nat.sub_zero, ← hB, sumFrom_end])
  | b + 1, h => by
    have h1 := way_right hB b (by omega)
    rw [show m - b = m - (b + 1) + 1 by omega] at h1
    exact (Way.right h1).cast (sumFrom_step (by omega)).symm
theorem way_down (hA : A.length = n) : ∀ a, a ≤ n → Way (fA A) (fA B) P (n - a) m n m (sumFrom A (n - a))
  | 0, _ => Way.nil.cast (by rw [Nat.sub_zero, ← hA, sumFrom_end])
  | a + 1, h => by
    have h1 := way_down hA a (by omega)
    rw [show n - a = n - (a + 1) + 1 by omega] at h1
    exact (Way.down h1).cast (sumFrom_step (by omega)).symm
theorem bwr_way (hA : A.length = n) (hB : B.length = m) : ∀ a b, a ≤ n → b ≤ m → Way (fA A) (fA B) P (n - a) (m - b) n m (bwr A B P n m a b)
  | 0, b, _, hb => (way_right hB b hb).cast (by rw [bwr_0, ← hA, sumFrom_end]; omega)
  | a + 1, 0, ha, _ => (way_down hA (a + 1) ha).cast (by rw [bwr_s0, ← hB, sumFrom_end]; omega)
  | a + 1, b + 1, ha, hb => by
    have h1 := bwr_way hA hB a b (by omega) (by omega)
    have h2 := bwr_way hA hB a (b + 1) (by omega) hb
    have h3 := bwr_way hA hB (a + 1) b ha (by omega)
    rw [show n - a = n - (a + 1) + 1 by omega] at h1 h2
    rw [show m - b = m - (b + 1) + 1 by omega] at h1 h3
    have g1 := Way.diag h1
    have g2 := Way.down h2
    have g3 := Way.right h3
    have e := bwr_ss (A := A) (B := B) (P := P) (n := n) (m := m) (a := a) (b := b)
    simp only [fA] at g1 g2 g3
    by_cases c1 : bwr A B P n m (a + 1) (b + 1) = bwr A B P n m a b + P (n - (a + 1)) (m - (b + 1))
    · exact g1.cast (by omega)
    · by_cases c2 : bwr A B P n m (a + 1) (b + 1) = bwr A B P n m a (b + 1) + A.getD (n - (a + 1)) 0
      · exact g2.cast (by omega)
      · exact g3.cast (by omega)
theorem bwr_down (hA : A.length = n) {a b : Nat} (ha : a < n) : bwr A B P n m (a + 1) b ≤ A.getD (n - (a + 1)) 0 + bwr A B P n m a b := by
  have e := sumFrom_step (l := A) (k := n - (a + 1)) (by omega)
  rw [show n - (a + 1) + 1 = n - a by omega] at e
  cases b with
  | zero =>
    rw [bwr_s0]
    cases a with
    | zero => rw [bwr_0]; simp only [Nat.sub_zero] at e ⊢; omega
    | succ a => rw [bwr_s0]; omega
  | succ b => rw [bwr_ss]; omega
theorem bwr_right (hB : B.length = m) {a b : Nat} (hb : b < m) : bwr A B P n m a (b + 1) ≤ B.getD (m - (b + 1)) 0 + bwr A B P n m a b := by
  have e := sumFrom_step (l := B) (k := m - (b + 1)) (by omega)
  rw [show m - (b + 1) + 1 = m - b by omega] at e
  cases a with
  | zero => rw [bwr_0, bwr_0]; omega
  | succ a => rw [bwr_ss]; omega
theorem bwr_diag {a b : Nat} : bwr A B P n m (a + 1) (b + 1) ≤ P (n - (a + 1)) (m - (b + 1)) + bwr A B P n m a b := by rw [bwr_ss]; omega
theorem bwr_le (hA : A.length = n) (hB : B.length = m) {i j k l : Nat} {c : Int} (h : Way (fA A) (fA B) P i j k l c) : k = n → l = m → bwr A B P n m (n - i) (m - j) ≤ c := by
  induction h with
  | @nil i j =>
    intro e1 e2
    rw [e1, e2, Nat.sub_self, Nat.sub_self, bwr_0, Nat.sub_zero, ← hA, ← hB, sumFrom_end, sumFrom_end]; omega
  | @down i j k l c h ih =>
    intro e1 e2
    have hle := h.le
    have h1 := ih e1 e2
    have h2 := bwr_down (B := B) (P := P) (m := m) hA (a := n - (i + 1)) (b := m - j) (by omega)
    rw [show n - (i + 1) + 1 = n - i by omega, show n - (n - i) = i by omega] at h2
    show _ ≤ A.getD i 0 + c
    omega
  | @right i j k l c h ih =>
    intro e1 e2
    have hle := h.le
    have h1 := ih e1 e2
    have h2 := bwr_right (A := A) (P := P) (n := n) hB (a := n - i) (b := m - (j + 1)) (by omega)
    rw [show m - (j + 1) + 1 = m - j by omega, show m - (m - j) = j by omega] at h2
    show _ ≤ B.getD j 0 + c
    omega
  | @diag i j k l c h ih =>
    intro e1 e2
    have hle := h.le
    have h1 := ih e1 e2
    have h2 := bwr_diag (A := A) (B := B) (P := P) (n := n) (m := m) (a := n - (i + 1)) (b := m - (j + 1))
    rw [show m - (j + 1) + 1 = m - j by omega, show m - (m - j) = j by omega, show n - (i + 1) + 1 = n - i by omega, show n - (n - i) = i by omega] at h2
    omega
/-- forward and backward tables answer the same -/
theorem fwr_bwr (hA : A.length = n) (hB : B.length = m) : fwr (fA A) (fA B) P n m = bwr A B P n m n m := by
  have h1 := fwr_way (A := fA A) (B := fA B) (P := P) n m
  have h2 := bwr_way (P := P) hA hB n m (Nat.le_refl _) (Nat.le_refl _)
  rw [Nat.sub_self, Nat.sub_self] at h2
  have h3 := fwr_le h2
  have h4 := bwr_le hA hB h1 rfl rfl
  rw [Nat.sub_zero, Nat.sub_zero] at h4
  rw [fwr_00] at h3
  omega
end
section
variable {A A' B B' : Nat → Int} {P P' : Nat → Nat → Int}
theorem fwr_congr : ∀ n m, (∀ i, i < n → A i = A' i) → (∀ j, j < m → B j = B' j) → (∀ i j, i < n → j < m → P i j = P' i j) → fwr A B P n m = fwr A' B' P' n m
  | 0, 0, _, _, _ => by rw [fwr_00, fwr_00]
  | i + 1, 0, h1, h2, h3 => by rw [fwr_col, fwr_col, fwr_congr i 0 (fun k hk => h1 k (by omega)) h2 (fun a b ha hb => absurd hb (by omega)), h1 i (by omega)]
  | 0, j + 1, h1, h2, h3 => by rw [fwr_row, fwr_row, fwr_congr 0 j h1 (fun k hk => h2 k (by omega)) (fun a b ha hb => absurd ha (by omega)), h2 j (by omega)]
  | i + 1, j + 1, h1, h2, h3 => by
    rw [fwr_in, fwr_in, fwr_congr i (j + 1) (fun k hk => h1 k (by omega)) h2 (fun a b ha hb => h3 a b (by omega) hb), fwr_congr (i + 1) j h1 (fun k hk => h2 k (by omega)) (fun a b ha hb => h3 a b ha (by omega)),
      fwr_congr i j (fun k hk => h1 k (by omega)) (fun k hk => h2 k (by omega)) (fun a b ha hb => h3 a b (by omega) (by omega)), h1 i (by omega), h2 j (by omega), h3 i j (by omega) (by omega)]
theorem fwr_symm : ∀ n m, fwr B A (fun j i => P i j) m n = fwr A B P n m
  | 0, 0 => by rw [fwr_00, fwr_00]
  | i + 1, 0 => by rw [fwr_row, fwr_col, fwr_symm i 0]
  | 0, j + 1 => by rw [fwr_col, fwr_row, fwr_symm 0 j]
  | i + 1, j + 1 => by
    rw [fwr_in, fwr_in, fwr_symm i (j + 1), fwr_symm (i + 1) j, fwr_symm i j]
    omega
theorem fwr_max {hi : Int} (h0 : 0 ≤ hi) (hA : ∀ i, A i ≤ hi) (hB : ∀ j, B j ≤ hi) (hP : ∀ i j, P i j ≤ hi) : ∀ n m, fwr A B P n m ≤ max (n : Int) (m : Int) * hi
  | 0, 0 => by rw [fwr_00]; simp
  | i + 1, 0 => by
    have h := fwr_max h0 hA hB hP i 0
    rw [fwr_col]
    have e1 : max (i : Int) ((0 : Nat) : Int) = i := by omega
    have e2 : max ((i + 1 : Nat) : Int) ((0 : Nat) : Int) = (i : Int) + 1 := by omega
    rw [e1] at h; rw [e2, Int.add_mul, Int.one_mul]
    have := hA i
    omega
  | 0, j + 1 => by
    have h := fwr_max h0 hA hB hP 0 j
    rw [fwr_row]
    have e1 : max ((0 : Nat) : Int) (j : Int) = j := by omega
    have e2 : max ((0 : Nat) : Int) ((j + 1 : Nat) : Int) = (j : Int) + 1 := by omega
    rw [e1] at h; rw [e2, Int.add_mul, Int.one_mul]
    have := hB j
    omega
  | i + 1, j + 1 => by
    have h := fwr_max h0 hA hB hP i j
    have h2 := fwr_diag (A := A) (B := B) (P := P) i j
    have e2 : max ((i + 1 : Nat) : Int) ((j + 1 : Nat) : Int) = max (i : Int) (j : Int) + 1 := by omega
    rw [e2, Int.add_mul, Int.one_mul]
    have := hP i j
    omega
end
end Mine

-- MPlain2
namespace Mine
open PySem PySem.W PySem.Calls PyProof.Rows PySem.Spec
set_option maxRecDepth 100000
def LET : List Nat := [65, 69, 72, 87, 66, 80, 70, 67, 83, 90, 112, 104, 99]
def UPL : List Nat := [65, 69, 72, 87, 66, 80, 70, 67, 83, 90]
def Good (z : Str) : Prop := ∀ c ∈ z.cps.toList, c ∈ LET
def upc (c : Nat) : Nat := if c < 97 then c else c - 32
abbrev S1 (c : Nat) : Str := ⟨#[c]⟩
theorem upperOf_let : ∀ c ∈ LET, Unicode.upperOf c = [upc c] := by decide +kernel
theorem upc_let : ∀ c ∈ LET, upc c ∈ UPL := by decide +kernel
theorem upper_list (z : Str) (h : Good z) : (Txt.upper z).cps.toList = z.cps.toList.map upc := by
  have e1 : (Txt.upper z).cps.toList = (z.cps.toList.map Unicode.upperOf).flatten := by
    show ((z.cps.mapIdx fun _ c => (Unicode.upperOf c).toArray).flatten).toList = _
    rw [Array.toList_flatten, Array.toList_mapIdx]
    congr 1
    refine List.ext_getElem? fun i => ?_
    simp
    cases z.cps[i]? <;> rfl
  rw [e1]
  generalize hl : z.cps.toList = l
  have h' : ∀ c ∈ l, c ∈ LET := by rw [← hl]; exact h
  clear hl e1 h
  induction l with
  | nil => rfl
  | cons c l ih =>
    rw [List.map_cons, List.flatten_cons, upperOf_let c (h' c (.head _)), ih fun d hd => h' d (.tail _ hd)]
    rfl
theorem upper_len (z : Str) (h : Good z) : (Txt.upper z).length = z.length := by
  show (Txt.upper z).cps.size = z.cps.size
  rw [← Array.length_toList, upper_list z h, List.length_map, Array.length_toList]
theorem upper_mem (z : Str) (h : Good z) {i c : Nat} (hc : (Txt.upper z).cps[i]? = some c) : c ∈ UPL := by
  have h1 : (Txt.upper z).cps.toList[i]? = some c := by simpa using hc
  rw [upper_list z h] at h1
  have h2 := List.mem_of_getElem? h1
  obtain ⟨d, hd, rfl⟩ := List.mem_map.mp h2
  exact upc_let d (h d hd)
theorem tab1 : ∀ x ∈ UPL, ∀ y ∈ UPL, ((!(inS (S1 x) grouped) || !(inS (S1 y) grouped)) && groups.any (fun g => inS (S1 x) g.1 && inS (S1 y) g.1)) = false := by decide +kernel
theorem tab2 : ∀ x ∈ UPL, inS (S1 x) (Str.ofString "HW") = ([Str.ofString "H", Str.ofString "W"].any fun q => q == S1 x) := by decide +kernel
theorem tab3 : ∀ y ∈ UPL, ¬ S1 32 = S1 y := by decide +kernel
theorem tab4 : inS (S1 32) (Str.ofString "HW") = false := by decide +kernel
theorem tab5 : inS (S1 32) grouped = false := by decide +kernel
theorem rc_pp {x y : Nat} {lo hi : Int} (hx : x ∈ UPL) (hy : y ∈ UPL) : rc (S1 x) (S1 y) lo hi = pp (S1 x) (S1 y) lo hi := by
  unfold rc pp
  by_cases e : S1 x = S1 y
  · rw [if_pos e, if_pos e]
  · rw [if_neg e, if_neg e]
    have t := tab1 x hx y hy
    by_cases c : (!(inS (S1 x) grouped) || !(inS (S1 y) grouped)) = true
    · rw [c, Bool.true_and] at t
      rw [if_pos c, if_neg (by rw [t]; exact Bool.false_ne_true)]
    · rw [if_neg c]
theorem dc_al {p c : Nat} {lo hi : Int} (hp : p ∈ UPL) (hc : c ∈ UPL) : dc (S1 p) (S1 c) lo hi = al (S1 p) (S1 c) lo hi := by
  unfold dc al
  have e : (!decide (S1 p = S1 c) && inS (S1 p) (Str.ofString "HW")) = hush (S1 p) (S1 c) := by
    unfold hush
    rw [← tab2 p hp, Bool.and_comm]
    congr 1
  rw [e, rc_pp hp hc]
theorem dc_sp {c : Nat} {lo hi : Int} (hc : c ∈ UPL) : dc (S1 32) (S1 c) lo hi = hi := by
  unfold dc
  rw [tab4, Bool.and_false, if_neg Bool.false_ne_true]
  unfold rc
  rw [if_neg (tab3 c hc), tab5]
  simp
theorem rc_le {c d : Str} {lo hi : Int} (h0 : 0 ≤ lo) (h1 : lo ≤ hi) : rc c d lo hi ≤ hi := by
  unfold rc; split
  · omega
  · split
    · omega
    · split <;> omega
theorem dc_le {c d : Str} {lo hi : Int} (h0 : 0 ≤ lo) (h1 : lo ≤ hi) : dc c d lo hi ≤ hi := by
  unfold dc; split
  · exact h1
  · exact rc_le h0 h1
theorem rc_symm (c d : Str) (lo hi : Int) : rc c d lo hi = rc d c lo hi := by
  by_cases h : c = d
  · rw [h]
  · unfold rc
    have e2 : (!(inS c grouped) || !(inS d grouped)) = (!(inS d grouped) || !(inS c grouped)) := Bool.or_comm ..
    have e3 : (groups.any fun g => inS c g.1 && inS d g.1) = (groups.any fun g => inS d g.1 && inS c g.1) := by
      congr 1; funext g; exact Bool.and_comm ..
    have h' : ¬ d = c := fun x => h x.symm
    simp only [if_neg h, if_neg h', e2, e3]
theorem spc_0 (z : Str) : (spc z).cps[0]? = some 32 := by
  show ((Str.ofString " ").cps ++ (Txt.upper z).cps)[0]? = _
  rw [show (Str.ofString " ").cps = #[32] by decide +kernel]
  simp [Array.getElem?_append]
theorem spc_s (z : Str) (i : Nat) : (spc z).cps[i + 1]? = (Txt.upper z).cps[i]? := by
  show ((Str.ofString " ").cps ++ (Txt.upper z).cps)[i + 1]? = _
  rw [show (Str.ofString " ").cps = #[32] by decide +kernel]
  simp [Array.getElem?_append]
theorem alone_0 {u : Str} {lo hi : Int} : (alone u lo hi).getD 0 0 = hi := rfl
theorem alone_s {u : Str} {lo hi : Int} {i : Nat} (h : i + 1 < u.length) : (alone u lo hi).getD (i + 1) 0 = al (Txt.item u (i : Int)) (Txt.item u ((i + 1 : Nat) : Int)) lo hi := by
  unfold alone aloneTo
  have h2 : i < u.length - 1 := by omega
  have e1 : (1 + (i : Int) - 1) = (i : Int) := by omega
  have e2 : (1 + (i : Int)) = (i : Int) + 1 := by omega
  simp [h2]
  rw [e1, e2]
theorem at_some {u : Str} {i : Nat} (h : i < u.length) : ∃ c, u.cps[i]? = some c := ⟨_, Array.getElem?_eq_getElem h⟩
theorem dcAt_alone {z : Str} {lo hi : Int} (g : Good z) {i : Nat} (h : i < (Txt.upper z).length) : dcAt (spc z) lo hi i = (alone (Txt.upper z) lo hi).getD i 0 := by
  obtain ⟨c, hc⟩ := at_some h
  have hcU := upper_mem z g hc
  have hc1 : (spc z).cps[i + 1]? = some c := by rw [spc_s]; exact hc
  have e1 : Txt.item (spc z) ((i : Int) + 1) = S1 c := item_get hc1
  cases i with
  | zero =>
    show dc (Txt.item (spc z) ((0 : Nat) : Int)) (Txt.item (spc z) (((0 : Nat) : Int) + 1)) lo hi = _
    rw [e1, item_get (spc_0 z), alone_0]
    exact dc_sp hcU
  | succ i =>
    obtain ⟨d, hd⟩ := at_some (u := Txt.upper z) (i := i) (by omega)
    have hdU := upper_mem z g hd
    have hd1 : (spc z).cps[i + 1]? = some d := by rw [spc_s]; exact hd
    show dc (Txt.item (spc z) ((i + 1 : Nat) : Int)) (Txt.item (spc z) (((i + 1 : Nat) : Int) + 1)) lo hi = _
    rw [e1, item_get hd1, alone_s h, item_get hd, item_get hc]
    exact dc_al hdU hcU
theorem rcAt_pp {z1 z2 : Str} {lo hi : Int} (g1 : Good z1) (g2 : Good z2) {i j : Nat} (h1 : i < (Txt.upper z1).length) (h2 : j < (Txt.upper z2).length) :
    rcAt (spc z1) (spc z2) lo hi i j = pp (Txt.item (Txt.upper z1) (i : Int)) (Txt.item (Txt.upper z2) (j : Int)) lo hi := by
  obtain ⟨c, hc⟩ := at_some h1
  obtain ⟨d, hd⟩ := at_some h2
  have hc1 : (spc z1).cps[i + 1]? = some c := by rw [spc_s]; exact hc
  have hd1 : (spc z2).cps[j + 1]? = some d := by rw [spc_s]; exact hd
  have e1 : Txt.item (spc z1) ((i : Int) + 1) = S1 c := item_get hc1
  have e2 : Txt.item (spc z2) ((j : Int) + 1) = S1 d := item_get hd1
  show rc (Txt.item (spc z1) ((i : Int) + 1)) (Txt.item (spc z2) ((j : Int) + 1)) lo hi = _
  rw [e1, e2, item_get hc, item_get hd]
  exact rc_pp (upper_mem z1 g1 hc) (upper_mem z2 g2 hd)
theorem alone_len {u : Str} {lo hi : Int} (h : 1 ≤ u.length) : (alone u lo hi).length = u.length := by
  unfold alone aloneTo; simp only [List.length_cons, List.length_map, List.length_range]; omega
theorem fwz_least {z1 z2 : Str} {lo hi : Int} (g1 : Good z1) (g2 : Good z2) (h1 : 1 ≤ z1.length) (h2 : 1 ≤ z2.length) :
    fwz (spc z1) (spc z2) lo hi (Txt.upper z1).length (Txt.upper z2).length = leastV (Txt.upper z1) (Txt.upper z2) lo hi := by
  have l1 := upper_len z1 g1
  have l2 := upper_len z2 g2
  unfold leastV
  show fwr _ _ _ _ _ = bwr (alone (Txt.upper z1) lo hi) (alone (Txt.upper z2) lo hi) _ _ _ _ _
  rw [← fwr_bwr (alone_len (by omega)) (alone_len (by omega))]
  exact fwr_congr _ _ (fun i hi' => dcAt_alone g1 hi') (fun j hj => dcAt_alone g2 hj) fun i j hi' hj => rcAt_pp g1 g2 hi' hj
/-- what the law reckons -/
def dueV (z1 z2 : Str) (lo hi : Int) : Int := if z1 = z2 then 0 else if z1.length = 0 ∨ z2.length = 0 then hi * max (z1.length : Int) (z2.length : Int) else leastV (Txt.upper z1) (Txt.upper z2) lo hi
theorem call_due {z1 z2 : Str} {lo hi : Int} (g1 : Good z1) (g2 : Good z2) (h0 : 0 ≤ lo) (hl : lo ≤ hi) : callV z1 z2 lo hi = dueV z1 z2 lo hi := by
  unfold callV dueV
  by_cases e : z1 = z2
  · rw [if_pos e, if_pos e]
  · rw [if_neg e, if_neg e]
    by_cases c : z1.length = 0 ∨ z2.length = 0
    · rw [if_pos c, if_pos c, Int.mul_comm]
    · rw [if_neg c, if_neg c, ← fwz_least g1 g2 (by omega) (by omega)]
      have h := fwr_max (A := dcAt (spc z1) lo hi) (B := dcAt (spc z2) lo hi) (P := rcAt (spc z1) (spc z2) lo hi) (hi := hi) (by omega) (fun _ => dc_le h0 hl) (fun _ => dc_le h0 hl) (fun _ _ => rc_le h0 hl) (Txt.upper z1).length (Txt.upper z2).length
      rw [upper_len z1 g1, upper_len z2 g2] at h ⊢
      exact Int.min_eq_left h
theorem call_symm (z1 z2 : Str) (lo hi : Int) : callV z2 z1 lo hi = callV z1 z2 lo hi := by
  have e : fwz (spc z2) (spc z1) lo hi (Txt.upper z2).length (Txt.upper z1).length = fwz (spc z1) (spc z2) lo hi (Txt.upper z1).length (Txt.upper z2).length := by
    have h := fwr_symm (A := dcAt (spc z1) lo hi) (B := dcAt (spc z2) lo hi) (P := rcAt (spc z1) (spc z2) lo hi) (Txt.upper z1).length (Txt.upper z2).length
    have e2 : (fun j i => rcAt (spc z1) (spc z2) lo hi i j) = rcAt (spc z2) (spc z1) lo hi := by
      funext j i; exact rc_symm _ _ _ _
    rw [e2] at h
    exact h
  unfold callV
  rw [e, Int.max_comm]
  by_cases h : z1 = z2
  · rw [if_pos h, if_pos h.symm]
  · rw [if_neg h, if_neg (fun x => h x.symm)]
    by_cases c : z1.length = 0 ∨ z2.length = 0
    · rw [if_pos c, if_pos (by omega)]
    · rw [if_neg c, if_neg (by omega)]
end Mine

-- MForL
namespace Mine
open PySem PySem.W PySem.Calls PyProof.Rows PySem.Spec
set_option maxRecDepth 100000
section
variable {prog : Program} {w : World} {A : Around} {E : Value → Shared → Prop} {s : Shared} {h₀ : Heap} {env : Env} {x : Str} {px pos : Pos} {iter : Expr} {body : List Stmt} {m₀ : Str → Option Value} {rest0 : List (Addr × Obj)} {Q : Flow → Shared → Prop}
/-- what the iterable of a loop over a made list of ints must be -/
def ListSrc (h₀ : Heap) (L : Addr) (n : Nat) (m₀ : Str → Option Value) (rest0 : List (Addr × Obj)) (s : Shared) (xv : Value) (s₁ : Shared) : Prop :=
  ∃ D vs ms h tk, xv = .ref D ∧ s₁ = { s with heap := h, toks := tk } ∧ IntsAre vs ms ∧ ms.length ≤ n ∧ Fr h₀ L h m₀ ∧ News h₀ L h ((D, W.listOf (List.toArray vs) 0) :: rest0) ∧ (∀ p ∈ rest0, p.1 < D)
def LTurn (h₀ : Heap) (L : Addr) (own : List (Addr × Obj)) (x : Str) (ws : List Str) (m₀ : Str → Option Value) (J : List (Addr × Obj) → Prop) (s s' : Shared) : Prop :=
  ∃ m rest h tk, s' = { s with heap := h, toks := tk } ∧ Fr h₀ L h m ∧ News h₀ L h (own ++ rest) ∧ (∀ p ∈ rest, ∀ q ∈ own, p.1 ≠ q.1) ∧ J rest ∧ (∀ z, z ≠ x → z ∉ ws → m z = m₀ z)
/-- `for x in xs:`, xs a made list of at most n ints -/
theorem for_list {n : Nat} (ws : List Str) (J₀ : List (Addr × Obj) → Nat → List (Addr × Obj) → Prop) (_F₀ : Fr h₀ env.locals s.heap m₀) (_N₀ : News h₀ env.locals s.heap rest0) (hh : A.handled = none) (hxk : env.kindOf x = some .local) (hp : (env.scope.kind == .class || (env.scope.kind == .module && env.locals != env.globals)) = false)
    (h : wpAny (model prog w) A (eval iter env) (ListSrc h₀ env.locals n m₀ rest0 s) E s)
    (hJ : J₀ rest0 0 rest0)
    (turn : ∀ i kv t (u : Str → Option Value) rest own (s₁ : Shared) h tk, i < n → J₀ rest0 i rest → (∀ p ∈ rest, ∀ q ∈ own, p.1 ≠ q.1) → (∀ p ∈ rest0, ∀ q ∈ own, p.1 < q.1) → Fr h₀ env.locals h (fun y => if y = x then some (.int kv t) else offW ws u m₀ y) → News h₀ env.locals h (own ++ rest) →
      wpAny (model prog w) A (execs body env) (fun f s' => f = .next ∧ LTurn h₀ env.locals own x ws m₀ (J₀ rest0 (i + 1)) s₁ s') (fun _ _ => False) { s₁ with heap := h, toks := tk })
    (done : ∀ i (u : Str → Option Value) rest h tk, i ≤ n → J₀ rest0 i rest → Fr h₀ env.locals h (fun y => if y = x then u y else offW ws u m₀ y) → News h₀ env.locals h rest → Q .next { s with heap := h, toks := tk })
    (hs : ∀ x, foldedSetIterable iter env x = pure x := by intro _; rfl) :
    wpAny (model prog w) A (exec (.For (.Name x px) iter body [] pos) env) Q E s := by
  generalize hJ0 : J₀ rest0 = J at *
  have NE : ∀ {α : Type} {t : Sem α} {Q' : α → Shared → Prop} {E' : Value → Shared → Prop} {s' : Shared}, wpAny (model prog w) A t Q' (fun _ _ => False) s' → wpAny (model prog w) A t Q' E' s' := fun z => wpAny_mono z (fun _ _ x => x) fun _ _ x => x.elim
  refine wpAny_For (wpAny_mono h (fun xv s₁ h₁ => ?_) fun _ _ e => e) hs
  obtain ⟨D, vs, ms, h₁, tk₁, rfl, rfl, hi, hn, F₁, N₁, hD⟩ := h₁
  have ND := N₁ _ (.head _)
  have hl₁ : h₁.IsList D vs.toArray := ⟨_, ND.1, rfl, _, rfl⟩
  refine wpAny_pyIter_list hl₁ ?_
  dsimp only
  generalize hI : h₁.objs.size = I
  have hIo : (h₁.push { cls := .type "list_iterator", data := .fields #[.ref D, .int 0 0] }).get? I = some { cls := .type "list_iterator", data := .fields #[.ref D, .int 0 0] } := by rw [← hI]; exact Heap.get?_push_size _ rfl
  have up : ∀ b o, h₁.get? b = some o → (h₁.push { cls := .type "list_iterator", data := .fields #[.ref D, .int 0 0] }).get? b = some o := fun b o e => Heap.get?_push_of_some _ e
  have hL : env.locals ≠ I := by rw [← hI]; exact Nat.ne_of_lt F₁.ns.lt
  have hDI : D ≠ I := by rw [← hI]; exact Nat.ne_of_lt (Heap.lt_size ND.1)
  have hI0 : h₀.get? I = none := by rw [← hI]; exact next_is_new F₁
  have hlt : ∀ p ∈ rest0, p.1 < I := fun p hp => by rw [← hI]; exact Heap.lt_size (N₁ p (.tail _ hp)).1
  have hlen : vs.length = ms.length := hi.length
  refine codeAny_forLoop_any
    (fun k s' => ∃ (h' : Heap) (tk : Nat) (m' : Str → Option Value) (rest : List (Addr × Obj)) (i : Nat), s' = { s with heap := h', toks := tk } ∧ h'.IsListIter I D i ∧ h'.get? D = some (W.listOf vs.toArray 0) ∧ Fr h₀ env.locals h' m' ∧ News h₀ env.locals h' rest ∧ (∀ p ∈ rest, p.1 ≠ I ∧ p.1 ≠ D) ∧ J i rest ∧ (∀ z, z ≠ x → z ∉ ws → m' z = m₀ z) ∧ i ≤ ms.length ∧ k = ms.length + 1 - i) ?_ (ms.length + 1)
    ⟨_, tk₁, m₀, rest0, 0, rfl, ⟨_, hIo, rfl, rfl⟩, up _ _ ND.1, F₁.push _, fun p hp => ⟨up _ _ (N₁ p (.tail _ hp)).1, (N₁ p (.tail _ hp)).2⟩, fun p hp => ⟨Nat.ne_of_lt (hlt p hp), Nat.ne_of_lt (hD p hp)⟩, hJ, fun _ _ _ => rfl, Nat.zero_le _, rfl⟩
  rintro k s' ⟨h', tk, m', rest, i, rfl, hit, hl, F', N', off', hj, hm, hin, rfl⟩
  have next : ∀ h₂ : Heap, (∀ b o, b ≠ I → h'.get? b = some o → h₂.get? b = some o) → Fr h₀ env.locals h₂ m' ∧ News h₀ env.locals h₂ rest := fun h₂ hk₂ =>
    ⟨⟨F'.ns.at' fun o q => hk₂ _ o hL q, fun b o q => hk₂ b o (fun e => by rw [e, hI0] at q; cases q) (F'.keep b o q), F'.above⟩, fun p hp => ⟨hk₂ _ _ (off' p hp).1 (N' p hp).1, (N' p hp).2⟩⟩
  have hl' : h'.IsList D vs.toArray := ⟨_, hl, rfl, _, rfl⟩
  by_cases hlt2 : i < ms.length
  · obtain ⟨kv, hkv⟩ : ∃ kv, ms[i]? = some kv := ⟨_, List.getElem?_eq_getElem hlt2⟩
    obtain ⟨t, ht⟩ := hi.get i kv hkv
    refine wpAny_pyNext_list_item hit hl' (x := .int kv t) (by simpa using ht) fun h₂ hit₂ hs₂ => ?_
    replace hs₂ : Heap.SameBut I h' h₂ := hs₂
    obtain ⟨F₂, N₂⟩ := next h₂ fun b o hb q => hs₂.extBut b o hb q
    show wpAny _ A (pure ()) _ _ _
    refine wpAny_pure ?_
    refine NE (wpAny_assign_Name (wpAny_storeName_local hxk F₂.ns (fun h₃ hn₃ hs₃ => ?_) hp))
    replace hs₃ : Heap.SameBut env.locals h₂ h₃ := hs₃
    have F₃ := F₂.set hn₃ hs₃
    have up3 : ∀ b o, b ≠ env.locals → h₂.get? b = some o → h₃.get? b = some o := fun b o hb q => hs₃.extBut _ _ hb q
    obtain ⟨oI, hoI, rI⟩ := hit₂
    have hoI3 := up3 _ _ hL.symm hoI
    have hD3 : h₃.get? D = some (W.listOf vs.toArray 0) := up3 _ _ ND.2.1 (hs₂.extBut _ _ hDI hl)
    have e0 : (fun y => if y = x then some (Value.int kv t) else m' y) = (fun y => if y = x then some (.int kv t) else offW ws m' m₀ y) := by
      funext z
      by_cases h1 : z = x
      · rw [if_pos h1, if_pos h1]
      · rw [if_neg h1, if_neg h1, offW_eq]
        by_cases h2 : z ∈ ws
        · rw [if_pos h2]
        · rw [if_neg h2]; exact hm z h1 h2
    refine wpAny_mono (turn i kv t m' rest [(I, oI), (D, W.listOf vs.toArray 0)] _ h₃ _ (Nat.lt_of_lt_of_le hlt2 hn) hj (fun p hp q hq => ?_) (fun p hp q hq => ?_) (e0 ▸ F₃) (fun p hp => ?_)) (fun f s₃ q => ?_) fun _ _ x => x.elim
    · simp only [List.mem_cons, List.not_mem_nil, or_false] at hq
      rcases hq with rfl | rfl
      · exact (off' p hp).1
      · exact (off' p hp).2
    · simp only [List.mem_cons, List.not_mem_nil, or_false] at hq
      rcases hq with rfl | rfl
      · exact hlt p hp
      · exact hD p hp
    · rcases List.mem_append.mp hp with hp | hp
      · simp only [List.mem_cons, List.not_mem_nil, or_false] at hp
        rcases hp with rfl | rfl
        · exact ⟨hoI3, hL.symm, hI0⟩
        · exact ⟨hD3, ND.2⟩
      · exact ⟨up3 _ _ (N₂ p hp).2.1 (N₂ p hp).1, (N₂ p hp).2⟩
    · obtain ⟨rfl, m₂, rest₂, h₄, tk₄, rfl, F₄, N₄, off₄, hj₄, hm₄⟩ := q
      refine ⟨ms.length + 1 - (i + 1), by omega, h₄, tk₄, m₂, rest₂, i + 1, rfl, ⟨oI, (N₄ (I, oI) (.head _)).1, rI⟩, (N₄ (D, W.listOf vs.toArray 0) (.tail _ (.head _))).1, F₄, fun p hp => N₄ p (List.mem_append_right _ hp), fun p hp => ⟨off₄ p hp _ (.head _), off₄ p hp _ (.tail _ (.head _))⟩, hj₄, hm₄, hlt2, rfl⟩
  · have hin2 : i = ms.length := by omega
    subst hin2
    refine wpAny_pyNext_list_end hh hit hl' (by simp [hlen]) fun h₂ hx₂ => ?_
    show wpAny _ A (execs [] env) _ _ _
    refine wpAny_execs_nil ?_
    obtain ⟨F₂, N₂⟩ := next h₂ fun b o hb q => hx₂ b o hb q
    refine done _ m' rest h₂ _ hn hj ?_ N₂
    have e0 : m' = (fun y => if y = x then m' y else offW ws m' m₀ y) := by
      funext z
      by_cases h1 : z = x
      · rw [if_pos h1]
      · rw [if_neg h1, offW_eq]
        by_cases h2 : z ∈ ws
        · rw [if_pos h2]
        · rw [if_neg h2]; exact hm z h1 h2
    exact e0 ▸ F₂
end
end Mine

-- MHead
namespace Mine
open PySem PySem.W PySem.Calls PyProof.Rows PySem.Spec
set_option maxRecDepth 100000
section
variable {prog : Program} {w : World} {A : Around} {E : Value → Shared → Prop} {s : Shared} {h₀ : Heap} {L D : Addr} {m : Str → Option Value} {led : List (Addr × Obj)} {ys : List Value}
/-- `xs[:k]`, xs a list of ints -/
theorem slice_upto {value slice : Expr} {k : Int} {u : Tok} {ns : List Int} {Q : Value → Shared → Prop} (F : Fr h₀ L s.heap m) (N : News h₀ L s.heap led) (hl : s.heap.IsList D ys.toArray) (hi : IntsAre ys ns) (h0 : 0 ≤ k) (hz : ns.length ≤ sizeLine)
    (h : ∀ D' ws h', Fr h₀ L h' m → News h₀ L h' ((D', W.listOf (List.toArray ws) 0) :: led) → (∀ p ∈ led, p.1 < D') → IntsAre ws (ns.take k.toNat) → Q (.ref D') { s with heap := h' })
    (hs : subscripted slice false (.ref D) (.ref s.heap.objs.size) = operate [.ref s.heap.objs.size, .ref D] (getItem (.ref D) (.ref s.heap.objs.size))) (ht : ∀ r, letTemporaryGo value (.ref D) r = pure ()) :
    wpAny (model prog w) A (subscriptTail value slice (.ref D) (.ref s.heap.objs.size)) Q E { s with heap := s.heap.push { cls := .type "slice", data := .fields #[.none, .int k u, .none] } } :=
  kmk_slice_ints (ms := ns.take k.toNat) F N hl IsPart.none (IsPart.int k u) hi (kmk_upto hi h0) rfl (fun D' ws h' F' N' l1 hi' _ _ => h D' ws h' F' N' l1 hi') hs ht (by rw [List.size_toArray, hi.length]; exact hz)
/-- `xs[j:k]`, xs a list of ints -/
theorem slice_mid {value slice : Expr} {j k : Int} {t u : Tok} {ns : List Int} {Q : Value → Shared → Prop} (F : Fr h₀ L s.heap m) (N : News h₀ L s.heap led) (hl : s.heap.IsList D ys.toArray) (hi : IntsAre ys ns) (h0 : 0 ≤ j) (h1 : 0 ≤ k) (hz : ns.length ≤ sizeLine)
    (hm : IntsAre (slicePick ys.toArray (some j) (some k) none).toList ((ns.take k.toNat).drop j.toNat))
    (h : ∀ D' ws h', Fr h₀ L h' m → News h₀ L h' ((D', W.listOf (List.toArray ws) 0) :: led) → (∀ p ∈ led, p.1 < D') → IntsAre ws ((ns.take k.toNat).drop j.toNat) → Q (.ref D') { s with heap := h' })
    (hs : subscripted slice false (.ref D) (.ref s.heap.objs.size) = operate [.ref s.heap.objs.size, .ref D] (getItem (.ref D) (.ref s.heap.objs.size))) (ht : ∀ r, letTemporaryGo value (.ref D) r = pure ()) :
    wpAny (model prog w) A (subscriptTail value slice (.ref D) (.ref s.heap.objs.size)) Q E { s with heap := s.heap.push { cls := .type "slice", data := .fields #[.int j t, .int k u, .none] } } :=
  kmk_slice_ints (ms := (ns.take k.toNat).drop j.toNat) F N hl (IsPart.int j t) (IsPart.int k u) hi hm rfl (fun D' ws h' F' N' l1 hi' _ _ => h D' ws h' F' N' l1 hi') hs ht (by rw [List.size_toArray, hi.length]; exact hz)
end
theorem head_two (ns : List Int) : ∃ a b, (ns.take 2 ++ [1, 1]).take 2 = [a, b] := by
  match ns with
  | [] => exact ⟨1, 1, rfl⟩
  | [a] => exact ⟨a, 1, rfl⟩
  | a :: b :: r => exact ⟨a, b, rfl⟩
theorem ints_two {ws : List Value} {a b : Int} (h : IntsAre ws [a, b]) : ∃ t u, ws = [.int a t, .int b u] := by
  cases h with
  | cons _ t h2 => cases h2 with
    | cons _ u h3 => cases h3; exact ⟨t, u, rfl⟩
theorem head_ints {ws : List Value} {ns : List Int} (h : IntsAre ws (List.take (Int.toNat 2) (ns.take 2 ++ [1, 1]))) : ∃ a b t u, ws = [.int a t, .int b u] := by
  obtain ⟨a, b, e⟩ := head_two ns
  have h2 : IntsAre ws [a, b] := by rw [← e]; exact h
  obtain ⟨t, u, e2⟩ := ints_two h2
  exact ⟨a, b, t, u, e2⟩
end Mine

-- MMainL
namespace Mine
open PySem PySem.W PySem.Calls PyProof.Rows PySem.Spec
set_option maxRecDepth 100000
def Passed (_ : Nat) : Prop := True
theorem UpdF_app {D : Addr} {o : Obj} {led : List (Addr × Obj)} {g : Obj → List (Addr × Obj)} : ∀ own : List (Addr × Obj), (∀ p ∈ own, p.1 ≠ D) → UpdF D o led g → UpdF D o (own ++ led) (fun o' => own ++ g o')
  | [], _, U => U
  | _ :: own, h, U => UpdF.tail (h _ (.head _)) (UpdF_app own (fun q hq => h q (.tail _ hq)) U)
theorem SegF_one {o : Obj} {news : List (Addr × Obj)} (h : ∀ p ∈ news, p.1 ≠ (172 : Nat)) : SegF [(172, o)] ((172, o) :: news) (fun t => t ++ news) := SegF.here (tabs := [(172, o)]) h
abbrev LETS : Str := Str.ofString "AEHWBPFCSZphc"
theorem good_tab : ∀ n : Fin 13, ∀ c ∈ (Txt.item LETS ((n.val : Nat) : Int)).cps.toList, c ∈ LET := by decide +kernel
theorem good_item {k : Int} (h0 : 0 ≤ k) (h1 : k < 13) : Good (Txt.item LETS k) := by
  obtain ⟨n, rfl⟩ : ∃ n : Nat, k = (n : Int) := ⟨k.toNat, by omega⟩
  exact good_tab ⟨n, by omega⟩
theorem item_len1 (x : Str) (k : Int) : (Txt.item x k).length = 1 := rfl
theorem app_len (x y : Str) : (x ++ y).length = x.length + y.length := by
  show (x.cps ++ y.cps).size = _
  rw [Array.size_append]; rfl
theorem Good.app {x y : Str} (h1 : Good x) (h2 : Good y) : Good (x ++ y) := fun c hc => by
  have e : (x ++ y).cps.toList = x.cps.toList ++ y.cps.toList := by
    show (x.cps ++ y.cps).toList = _
    rw [Array.toList_append]
  rw [e] at hc
  rcases List.mem_append.mp hc with hc | hc
  · exact h1 c hc
  · exact h2 c hc
theorem Good.nil : Good (Str.ofString "") := by
  have e : (Str.ofString "").cps.toList = [] := by decide +kernel
  intro c hc; rw [e] at hc; nomatch hc
theorem nil_len : (Str.ofString "").length = 0 := by decide +kernel
theorem join_groups {prog : Program} {w : World} {A : Around} {E : Value → Shared → Prop} {s : Shared} {D : Addr} {items : Array Value} {t : Tok} {Q : Value → Shared → Prop} (hl : IsTup s.heap D items) (hi : StrsAre items.toList (groups.map (·.1)))
    (h : ∀ t' k, Q (.str (Str.ofString "AEIOUYBPCKQDTLRMNGJFPVSXZCSZ") t') { s with toks := k }) : wpAny (model prog w) A (call (.builtin "str.join") [.str (Str.ofString "") t, .ref D]) Q E s := by
  have e : Txt.join (Str.ofString "") (groups.map (·.1)) = Str.ofString "AEIOUYBPCKQDTLRMNGJFPVSXZCSZ" := by decide +kernel
  refine join_tupleC hl hi (by decide +kernel) (by decide +kernel) fun t' k => ?_
  rw [e]; exact h t' k
theorem str_nil {z : Str} (h : z.length = 0) : z = Str.ofString "" := by
  obtain ⟨c⟩ := z
  have : c = #[] := Array.eq_empty_of_size_eq_zero h
  rw [this]; decide +kernel
theorem pos_len {z : Str} (h : (z == Str.ofString "") = false) : 1 ≤ z.length := by
  rcases Nat.eq_zero_or_pos z.length with e | e
  · rw [str_nil e] at h; simp at h
  · exact e
theorem up_pos {z : Str} (g : Good z) (h : (z == Str.ofString "") = false) : 1 ≤ (Txt.upper z).length := by rw [upper_len z g]; exact pos_len h
theorem eq_int_true {prog : Program} {w : World} {A : Around} {E : Value → Shared → Prop} {s : Shared} {a b : Int} {t u : Tok} {Q : Value → Shared → Prop} (e : a = b) (h : Q (.bool true) s) : wpAny (model prog w) A (compareOp .Eq (.int a t) (.int b u)) Q E s := by
  refine eq_int ?_
  subst e
  have : (a == a) = true := beq_self_eq_true a
  rw [this]; exact h
abbrev longest (za zb : Str) : Int := if (zb.length : Int) > (za.length : Int) then (zb.length : Int) else (za.length : Int)
theorem longest_eq (za zb : Str) : longest za zb = max (za.length : Int) (zb.length : Int) := by
  unfold longest; split <;> omega
theorem end_d0 {za zb : Str} {LO HI : Int} (h : (za == zb) = true) : callV za zb LO HI = 0 := callV_same (eq_of_beq h)
theorem ne_of {x y : Str} (h : (x == y) = false) : ¬ x = y := fun e => by rw [e] at h; simp at h
theorem end_d1 {za zb : Str} {LO HI hi : Int} (n : (za == zb) = false) (h : (za == Str.ofString "") = true) (e : HI = hi) : callV za zb LO HI = hi * longest za zb := by
  have e1 : za = Str.ofString "" := eq_of_beq h
  rw [callV_none ⟨ne_of n, .inl (by rw [e1, nil_len])⟩, e, longest_eq, Int.mul_comm]
theorem end_d2 {za zb : Str} {LO HI hi : Int} (n : (za == zb) = false) (h : (zb == Str.ofString "") = true) (e : HI = hi) : callV za zb LO HI = hi * longest za zb := by
  have e1 : zb = Str.ofString "" := eq_of_beq h
  rw [callV_none ⟨ne_of n, .inr (by rw [e1, nil_len])⟩, e, longest_eq, Int.mul_comm]
theorem end_d3 {za zb : Str} {LO HI lo hi : Int} (ga : Good za) (gb : Good zb) (n : (za == zb) = false) (h1 : (za == Str.ofString "") = false) (h2 : (zb == Str.ofString "") = false) (eL : LO = lo) (eH : HI = hi) (h0 : 0 ≤ lo) (hl : lo ≤ hi) :
    callV za zb LO HI = leastV (Txt.upper za) (Txt.upper zb) lo hi := by
  rw [eL, eH, call_due ga gb h0 hl]
  unfold dueV
  have p1 := pos_len h1
  have p2 := pos_len h2
  rw [if_neg (ne_of n), if_neg (by omega)]
theorem fm0 {a : Int} : 0 ≤ a.fmod 1000001 := Int.fmod_nonneg_of_pos a (by decide)
theorem fm1 {a b : Int} : a.fmod 1000001 ≤ a.fmod 1000001 + b.fmod 1000001 := by
  have := @fm0 b; omega
theorem lo_eq {a : Int} : (if 0 > a.fmod 1000001 then 0 else a.fmod 1000001) = a.fmod 1000001 := by
  have := @fm0 a
  rw [if_neg (by omega)]
theorem hi_eq {a b : Int} : (if (if 0 > a.fmod 1000001 then 0 else a.fmod 1000001) > a.fmod 1000001 + b.fmod 1000001 then (if 0 > a.fmod 1000001 then 0 else a.fmod 1000001) else a.fmod 1000001 + b.fmod 1000001) = a.fmod 1000001 + b.fmod 1000001 := by
  have := @fm0 b
  rw [lo_eq, if_neg (by omega)]
theorem sim_of {za zb : Str} {LO HI hi D : Int} (e : callV za zb LO HI = D) (eH : HI = hi) : max (zb.length : Int) (za.length : Int) * HI - callV zb za LO HI = hi * longest za zb - D := by
  rw [call_symm za zb, e, longest_eq, eH, Int.mul_comm, Int.max_comm]
theorem post_true (ns : List Int) : PySem.Challenge.rw_br0031_01.row.claim.post [ofPy (PyData.list (ns.map PyData.int))] (.bool true) [ofPy (PyData.list (ns.map PyData.int))] = true := by
  wrow_post
/-- a way's end behind the statement that stores due -/
def DueEnd (h₀ : Heap) (L : Addr) (m : Str → Option Value) (led : List (Addr × Obj)) (P : Int → Prop) (s s' : Shared) : Prop :=
  ∃ D t h tk, s' = { s with heap := h, toks := tk } ∧ Fr h₀ L h (fun y => if y = Str.ofString "due" then some (.int D t) else m y) ∧ News h₀ L h led ∧ P D
/-- a statement that stores due alone: its ways meet -/
theorem cut_due {prog : Program} {w : World} {A : Around} {E : Value → Shared → Prop} {s : Shared} {stmt : Stmt} {env : Env} {h₀ : Heap} {L : Addr} {m : Str → Option Value} {led : List (Addr × Obj)} {Q : Flow → Shared → Prop} (P : Int → Prop) (_F : Fr h₀ L s.heap m) (_N : News h₀ L s.heap led)
    (h : wpAny (model prog w) A (exec stmt env) (fun fl s' => fl = .next ∧ DueEnd h₀ L m led P s s') (fun _ _ => False) s)
    (k : ∀ D t h tk, P D → Fr h₀ L h (fun y => if y = Str.ofString "due" then some (.int D t) else m y) → News h₀ L h led → Q .next { s with heap := h, toks := tk }) : wpAny (model prog w) A (exec stmt env) Q E s :=
  wpAny_mono h (fun fl s' hq => by
    obtain ⟨rfl, D, t, h', tk, rfl, F', N', hP⟩ := hq
    exact k D t h' tk hP F' N') fun _ _ x => x.elim
theorem end_D {za zb : Str} {LO HI lo hi D : Int} (hD : callV za zb lo hi = D) (eL : LO = lo) (eH : HI = hi) : callV za zb LO HI = D := by rw [eL, eH]; exact hD
theorem fmod2 (k : Int) : k.fmod 2 = 0 ∨ k.fmod 2 = 1 := by
  have h1 := Int.fmod_nonneg_of_pos k (show (0 : Int) < 2 by decide)
  have h2 := Int.fmod_lt_of_pos k (show (0 : Int) < 2 by decide)
  omega
end Mine

-- MMain
namespace Mine
open PySem PySem.W PySem.Calls PyProof.Rows
local macro_rules | `(tactic| walk_at "binaryOp Add ref ref") => `(tactic| (k_here; (with_reducible show wpAny _ _ (binaryOp _ (Value.ref _) (Value.ref _)) _ _ _); k_dflt (refine' kmk_add_ints ?v1 ?v2 ?v3 ?v4 ?v5 ?v6 ?_ ?v7; (case v1 => k_asm); (case v2 => k_asm); (case v3 => kmk_list); (case v4 => kmk_list); (case v5 => l_ints); (case v6 => l_ints); (case v7 => (rw [PySem.sizeLine_eq]; simp only [List.length_take, List.length_cons, List.length_nil]; omega))); intro D' ws' h' F' N' l1 hI'; (try k_lt l1)))
local macro_rules | `(tactic| walk_at "subscriptTail BinOp") => `(tactic| (k_here; (with_reducible show wpAny _ _ (subscriptTail (PySem.Expr.BinOp _ _ _ _) (PySem.Expr.Slice none (some _) none _) (Value.ref _) (Value.ref _)) _ _ _); k_dflt (refine kba_turn (value' := PySem.Expr.Name (PySem.Str.ofString "_") ⟨0, 0, 0, 0⟩) (fun _ => rfl) ?_); k_dflt (refine' slice_upto ?u1 ?u2 ?u3 ?u4 ?u5 ?u6 ?_ ?u7 ?u8; (case u1 => k_asm); (case u2 => k_asm); (case u3 => kmk_list); (case u4 => l_ints); (case u5 => omega); (case u6 => (rw [PySem.sizeLine_eq]; simp only [List.length_take, List.length_append, List.length_cons, List.length_nil]; omega)); (case u7 => with_unfolding_all rfl); (case u8 => kmk_pure)); intro D' ws' h' F' N' l1 hI'; (try k_lt l1)))
local macro_rules | `(tactic| walk_at "exec For Name BoolOp cons nil") => `(tactic| (k_here; refine Stop.out ?_))
local macro_rules | `(tactic| walk_at "subscriptTail Name Name ref int") => `(tactic| (k_here; (with_reducible show wpAny _ _ (subscriptTail _ _ (Value.ref _) (Value.int _ _)) _ _ _); k_dflt (refine' item0_N ?i1 ?i2 ?i3 ?i4 ?i5 ?_; (case i1 => k_asm); (case i2 => kcf_m); (case i3 => omega); (case i4 => omega); (case i5 => assumption); k_whole)))
local macro_rules | `(tactic| walk_at "setItem ref int") => `(tactic| (k_here; k_dflt (refine' setItem0_N ?s1 ?s2 ?s3 ?s4 ?s5 ?s6 ?_; (case s1 => k_asm); (case s2 => k_asm); (case s3 => (refine' UpdF_app _ ?uA ?uB; (case uA => assumption); (case uB => k_updF))); (case s4 => omega); (case s5 => (simp only [List.length_cons, List.length_nil]; omega)); (case s6 => (rw [PySem.sizeLine_eq]; simp only [List.length_cons, List.length_nil]; omega)); k_whole); intro h' F' N'; (try dsimp only at N')))
local macro_rules | `(tactic| walk_at "mine offL") => `(tactic| (intro z9 h9 h8; (repeat' (first | exact rfl | (refine off_if h9 ?_) | (refine off_in h8 ?_) | (refine off_if (fun e9 => h8 (by rw [e9]; decide)) ?_)))))
local macro_rules | `(tactic| walk_at "mine led") => `(tactic| (first | assumption | (refine' cb_drop ?cbN ?cbS; (case cbN => assumption); (case cbS => kcj_all))))

local macro_rules | `(tactic| walk_at "exec For Name Call cons nil") => `(tactic| (k_here; refine Stop.out ?_))
local macro_rules | `(tactic| walk_at "exec For Name Name cons nil") => `(tactic| (k_here; refine Stop.out ?_))
local macro_rules | `(tactic| walk_at "exec For Tuple Call cons nil") => `(tactic| (k_here; refine Stop.out ?_))

local macro_rules | `(tactic| walk_at "exec Assign") => `(tactic| (k_here; (with_reducible show wpAny _ _ (exec (PySem.Stmt.Assign [PySem.Expr.Name (Str.ofString "low") _] _ _) _) _ _ _); (fail_if_success (with_reducible rename Passed 1 => hp)); refine Stop.out ?_))
local macro_rules | `(tactic| walk_at "call builtin:str.join") => `(tactic| (k_here; (with_reducible show wpAny _ _ (call (Value.builtin "str.join") [Value.str _ _, Value.ref _]) _ _ _); k_dflt (refine' join_groups ?jA ?jB ?_; (case jA => ktb_isTup); (case jB => (repeat constructor))); intro _ _))

local macro_rules | `(tactic| walk_at "compareOp Eq int int") => `(tactic| (k_here; (with_reducible show wpAny _ _ (compareOp CmpOp.Eq (Value.int (callV _ _ _ _) _) (Value.int _ _)) _ _ _); refine Stop.out ?_))
local macro_rules | `(tactic| walk_at "compareOp Eq int int") => `(tactic| (k_here; (with_reducible show wpAny _ _ (compareOp CmpOp.Eq (Value.int (_ - callV _ _ _ _) _) (Value.int _ _)) _ _ _); refine Stop.out ?_))
local macro_rules | `(tactic| walk_at "mine hh") => `(tactic| (first | exact lo_eq | exact hi_eq | rfl))
local macro_rules | `(tactic| walk_at "mine eqd") => `(tactic| (first
  | exact end_d0 (by assumption)
  | exact end_d1 (by assumption) (by assumption) (by walk_at "mine hh")
  | exact end_d2 (by assumption) (by assumption) (by walk_at "mine hh")
  | exact end_d3 (by assumption) (by assumption) (by assumption) (by assumption) (by assumption) (by walk_at "mine hh") (by walk_at "mine hh") fm0 fm1))

local macro_rules | `(tactic| walk_at "exec If") => `(tactic| (k_here; (with_reducible show wpAny _ _ (exec (PySem.Stmt.If (PySem.Expr.BoolOp _ _ _) _ _ _) _) _ _ _); (fail_if_success (with_reducible rename Passed 2 => hp)); refine Stop.out ?_))
local macro_rules | `(tactic| walk_at "mine due") => `(tactic| (refine' ⟨_, _, _, _, rfl, ?dF, ?dN, ?dP⟩; (case dF => k_asm); (case dN => walk_at "mine led"); (case dP => walk_at "mine eqd")))

local macro_rules | `(tactic| walk_at "call ref") => `(tactic| (k_here; (with_reducible show wpAny _ _ (call (Value.ref 216) _) _ _ _); refine Stop.out ?_))
local macro_rules | `(tactic| walk_at "call ref") => `(tactic| (k_here; (with_reducible show wpAny _ _ (call (Value.ref 60) _) _ _ _); refine Stop.out ?_))
local macro_rules | `(tactic| walk_at "call ref") => `(tactic| (k_here; (with_reducible show wpAny _ _ (call (Value.ref 67) _) _ _ _); refine Stop.out ?_))
local macro_rules | `(tactic| walk_at "mine seg") => `(tactic| (first | (refine' SegF_one ?sgC; (case sgC => (first | exact fun _ h => (nomatch h) | assumption))) | (refine' SegF.there ?sgA ?sgB; (case sgA => (first | assumption | k_ne)); (case sgB => walk_at "mine seg"))))

local macro_rules | `(tactic| walk_at "mine spec") => `(tactic| first | (refine' least_spec ?k1 ?k2 ?k3 ?k4 ?k5 ?kK ?kd ?ku ?z1 ?z2 ?z3 ?z4 ?_; (case k1 => k_asm); (case k2 => k_asm); (case k3 => k_asm); (case k4 => k_asm); (case k5 => k_asm); (case kK => first | exact rfl | assumption); (case kd => ktr_room); (case ku => ktr_units); (case z1 => omega); (case z2 => exact up_pos (by assumption) (by assumption)); (case z3 => omega); (case z4 => exact up_pos (by assumption) (by assumption)); k_whole; intro t' h' tk' F' N') | (refine' dist_any ?k1 ?k2 ?k3 ?k4 ?k5 ?kK ?kd ?ku ?c1 ?c2 ?c3 ?c4 ?c5 ?c6 ?c7 ?c8 ?c9 ?_; (case k1 => k_asm); (case k2 => k_asm); (case k3 => k_asm); (case k4 => k_asm); (case k5 => k_asm); (case kK => first | exact rfl | assumption); (case kd => ktr_room); (case ku => ktr_units); (case c1 => assumption); (case c2 => (first | assumption | omega)); (case c3 => (first | assumption | omega)); (case c4 => walk_at "mine seg"); (case c5 => kcf_m); (case c6 => kcf_m); (case c7 => exact TabsOk.start _); (case c8 => omega); (case c9 => omega); k_whole; intro t' tabs' h' tk' hO' F' N'; (obtain ⟨ps', cs', hE', _, _, _⟩ := hO'); subst hE'; (try simp only [List.cons_append, List.nil_append] at N')) | (refine' simi_any ?k1 ?k2 ?k3 ?k4 ?k5 ?kK ?kd ?ku ?c1 ?c2 ?c3 ?c4 ?c5 ?c6 ?c7 ?c8 ?c9 ?_; (case k1 => k_asm); (case k2 => k_asm); (case k3 => k_asm); (case k4 => k_asm); (case k5 => k_asm); (case kK => first | exact rfl | assumption); (case kd => ktr_room); (case ku => ktr_units); (case c1 => assumption); (case c2 => (first | assumption | omega)); (case c3 => (first | assumption | omega)); (case c4 => walk_at "mine seg"); (case c5 => kcf_m); (case c6 => kcf_m); (case c7 => exact TabsOk.start _); (case c8 => omega); (case c9 => omega); k_whole; intro t' tabs' h' tk' hO' F' N'; (obtain ⟨ps', cs', hE', _, _, _⟩ := hO'); subst hE'; (try simp only [List.cons_append, List.nil_append] at N')))
local macro_rules | `(tactic| walk_at "call ref") => `(tactic| (k_here; k_dflt (first | (refine wpAny_call ?_; walk_at "mine spec") | (refine call_meth (by k_asm) (by k_mem) ?_; walk_at "mine spec")); (try dsimp only); (try k_fold)))

set_option maxRecDepth 100000 in
set_option maxHeartbeats 8000000 in
theorem holds : PySem.Challenge.rw_br0031_01.Holds := hd (by
  w_top off
  k_go0
  all_goals try k_fold
  k_steps
  rename IntsAre _ (List.take (Int.toNat 2) _) => hI2
  obtain ⟨na, nb, ta, tb, hws⟩ := head_ints hI2
  subst hws
  clear hI2
  have hlo0 := Int.fmod_nonneg_of_pos na (show (0 : Int) < 1000001 by decide)
  have hhi0 := Int.fmod_nonneg_of_pos nb (show (0 : Int) < 1000001 by decide)
  have hp1 : Passed 1 := trivial
  refine Stop.into ?_
  k_steps
  refine Stop.into ?_
  k_dflt (refine' for_list (n := 7) [Str.ofString "place"] (fun base i rest => ∃ T tail oT za zb t1 t2, base = (T, oT) :: tail ∧ rest = (T, lst0 [.str za t1, .str zb t2]) :: tail ∧ Good za ∧ Good zb ∧ za.length + zb.length ≤ i) ?fF ?fN ?fh ?fk ?fp ?fs ?fj ?ft ?fd)
  (case fF => k_asm)
  (case fN => k_asm)
  (case fh => exact rfl)
  (case fk => exact rfl)
  (case fp => exact rfl)
  (case fj => exact ⟨_, _, _, _, _, _, _, rfl, rfl, Good.nil, Good.nil, by rw [nil_len]; exact Nat.le_refl _⟩)
  (case fs =>
    k_steps
    · refine' ⟨_, _, _, _, _, rfl, rfl, ?a1, ?a2, ?a3, ?a4, ?a5⟩
      (case a1 => assumption)
      (case a2 => (simp only [List.length_take, List.length_drop]; omega))
      (case a3 => k_asm)
      (case a4 => assumption)
      (case a5 =>
        rename _ ∧ _ => lt9
        exact List.forall_mem_cons.mpr ⟨lt9.1, List.forall_mem_cons.mpr ⟨lt9.2.1, List.forall_mem_cons.mpr ⟨lt9.2.2.1, List.forall_mem_cons.mpr ⟨lt9.2.2.2.1, List.forall_mem_cons.mpr ⟨lt9.2.2.2.2.1, List.forall_mem_cons.mpr ⟨lt9.2.2.2.2.2, List.forall_mem_nil _⟩⟩⟩⟩⟩⟩)
    · refine' ⟨_, _, [4, 10, 0, 13, 5, 7], _, _, rfl, rfl, ?b1, ?b2, ?b3, ?b4, ?b5⟩
      (case b4 => exact cb_drop (by assumption) (by kcj_all))
      (case b1 => exact .cons _ _ (.cons _ _ (.cons _ _ (.cons _ _ (.cons _ _ (.cons _ _ .nil))))))
      (case b2 => decide)
      (case b3 => k_asm)
      (case b5 =>
        rename _ ∧ _ => lt8
        have lt9 := lt8.2
        exact List.forall_mem_cons.mpr ⟨lt9.1, List.forall_mem_cons.mpr ⟨lt9.2.1, List.forall_mem_cons.mpr ⟨lt9.2.2.1, List.forall_mem_cons.mpr ⟨lt9.2.2.2.1, List.forall_mem_cons.mpr ⟨lt9.2.2.2.2.1, List.forall_mem_cons.mpr ⟨lt9.2.2.2.2.2, List.forall_mem_nil _⟩⟩⟩⟩⟩⟩))
  (case ft =>
    rintro i kv t u rest own s5 h7 tk7 hi7 ⟨T, tail, oT, za, zb, t1, t2, hbase, rfl, ga, gb, hlen⟩ off7 hlt F7 N7
    have hown : ∀ p ∈ own, p.1 ≠ T := fun p hp => Ne.symm (off7 _ (.head _) p hp)
    cases hbase
    simp only [offW] at F7
    rcases fmod2 kv with hm | hm
    · have hx : ([.str za t1, .str zb t2] : List Value)[(kv.fmod 2).toNat]? = some (.str za t1) := by rw [hm]; rfl
      k_steps
      rename News _ _ _ _ => N8
      rw [hm] at N8
      refine' ⟨_, _, _, _, rfl, ?qF0, ?qN0, ?qO0, ⟨_, _, _, za ++ Txt.item LETS ((kv.fdiv 2).fmod 13), zb, _, t2, rfl, rfl, ?qA0, gb, ?qL0⟩, ?qM0⟩
      (case qN0 => exact N8)
      (case qF0 => k_asm)
      (case qO0 =>
        intro p hp q hq
        rcases List.mem_cons.mp hp with rfl | hp
        · exact off7 _ (.head _) q hq
        · exact off7 p (.tail _ hp) q hq)
      (case qA0 => exact ga.app (good_item (Int.fmod_nonneg_of_pos _ (by decide)) (Int.fmod_lt_of_pos _ (by decide))))
      (case qL0 => (rw [app_len, item_len1]; omega))
      (case qM0 => walk_at "mine offL")
    · have hx : ([.str za t1, .str zb t2] : List Value)[(kv.fmod 2).toNat]? = some (.str zb t2) := by rw [hm]; rfl
      k_steps
      rename News _ _ _ _ => N8
      rw [hm] at N8
      refine' ⟨_, _, _, _, rfl, ?qF1, ?qN1, ?qO1, ⟨_, _, _, za, zb ++ Txt.item LETS ((kv.fdiv 2).fmod 13), t1, _, rfl, rfl, ga, ?qA1, ?qL1⟩, ?qM1⟩
      (case qN1 => exact N8)
      (case qF1 => k_asm)
      (case qO1 =>
        intro p hp q hq
        rcases List.mem_cons.mp hp with rfl | hp
        · exact off7 _ (.head _) q hq
        · exact off7 p (.tail _ hp) q hq)
      (case qA1 => exact gb.app (good_item (Int.fmod_nonneg_of_pos _ (by decide)) (Int.fmod_lt_of_pos _ (by decide))))
      (case qL1 => (rw [app_len, item_len1]; omega))
      (case qM1 => walk_at "mine offL"))
  (case fd =>
    rintro i u rest h8 tk8 hi8 ⟨T, tail, oT, za, zb, t1, t2, hbase, rfl, ga, gb, hlen⟩ F8 N8
    cases hbase
    simp only [offW] at F8
    have hua := upper_len za ga
    have hub := upper_len zb gb
    k_steps
    refine Stop.into ?_
    have hp2 : Passed 2 := trivial
    k_dflt (refine' cut_due (fun D => callV za zb (([na, nb].getD (Int.toNat 0) 0).fmod 1000001) (([na, nb].getD (Int.toNat 0) 0).fmod 1000001 + ([na, nb].getD (Int.toNat 1) 0).fmod 1000001) = D) ?xF ?xN ?xh ?xk)
    (case xF => k_asm)
    (case xN => k_asm)
    (case xh =>
      k_steps
      all_goals walk_at "mine due")
    intro D9 t9 h9 tk9 hD9 F9 N9
    k_steps
    all_goals refine Stop.into ?_
    all_goals refine eq_int_true ?_ ?_
    all_goals (first | (focus (exact end_D hD9 (by walk_at "mine hh") (by walk_at "mine hh"))) | (focus (exact sim_of (end_D hD9 (by walk_at "mine hh") (by walk_at "mine hh")) (by walk_at "mine hh"))) | skip)
    all_goals (refine And.intro ?_ ?_)
    all_goals (first | exact goodW_bool (by k_asm) (by assumption) (fun _ => rfl) (post_true _) | exact And.intro (GrownAt.of (by k_asm) (by kcf_m)) True.intro))
)
end Mine

set_option maxRecDepth 100000 in
theorem PySem.Challenge.cw_br0031_01_holds : PySem.Challenge.rw_br0031_01.Holds := by
  exact Mine.holds
