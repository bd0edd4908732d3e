import PyProof.Rows.All
import Wide.All
import OpenK.AllK
import Wide.FinOn
import OpenK.XGo
import Lean
import PySem.Challenge.RW_ik0039_01
set_option Elab.async false
set_option linter.unusedVariables false
section -- HdV
open PySem PySem.W PySem.W.X PyProof.Rows
namespace Mine
noncomputable def keepAt (is : List Nat) (l : List Stmt) : List Stmt := is.filterMap fun i => l[i]?
theorem ws : OpenLaw.wellSaid PySem.Challenge.rw_ik0039_01 = true := by kernel_rfl
/-- the view: the text without the names that stand twice, and without what is loose -/
noncomputable def vw : Program := { PySem.Challenge.pw_ik0039_01 with main := { PySem.Challenge.pw_ik0039_01.main with body := keepAt [0, 2, 3, 4, 5, 7, 8, 11, 12, 13, 14, 15, 16] PySem.Challenge.pw_ik0039_01.main.body } }
/-- the law by its view: what is left is looked at once -/
theorem opened {K : Params → Frag} {as : List Addr} {e : ∀ P, as = (K P).map (·.1)} {d : DefRec} {kwd : List (Str × Expr)}
   (hl : LeftO (PySem.Challenge.rw_ik0039_01.row).prog vw [Str.ofString "_Accumulator", Str.ofString "_initial_missing", Str.ofString "reduce"] (fun s => xlAt vw [] s && recOk (RowW.records (OpenRow.toRowW PySem.Challenge.rw_ik0039_01.row)) s)
     (kmHook K as e [140, 147, 184, 210, 229]).obs (kmHook K as e [140, 147, 184, 210, 229]).val 2802)
   (hdef : defOf vw (PySem.Challenge.rw_ik0039_01.row).name = some (d, kwd)) (hp : (PySem.Challenge.rw_ik0039_01.row).prog.theDef (PySem.Challenge.rw_ik0039_01.row).name = some (d.params, d.body, d.scope)) (hk : kwWritten? d.params.kwonlyargs d.params.kw_defaults = some kwd)
   (hw : (PySem.Challenge.rw_ik0039_01.row).toRowW.promised)
   (hc : WalkO vw [Str.ofString "_Accumulator", Str.ofString "_initial_missing", Str.ofString "reduce"] (XL vw []) (kmHook K as e [140, 147, 184, 210, 229]).says (PySem.Challenge.rw_ik0039_01.row).toRowW d kwd fun f vs => PySem.call f vs) : (PySem.Challenge.rw_ik0039_01.row).Holds :=
  holds_open hl (Hook.of _) (Hook.keeps _) (fun s e => xl_of s (Bool.and_eq_true_iff.mp e).1) XL.keeps hdef hp hk (fun s e => recFacts_of (Bool.and_eq_true_iff.mp e).2) (by rfl)
    (row_said ws) (by decide +kernel) ⟨rfl, rfl, rfl, rfl, rfl, by decide +kernel⟩ hw hc
theorem lawed (h : (PySem.Challenge.rw_ik0039_01.row).Holds) : PySem.Challenge.rw_ik0039_01.Holds := holds_law ws fun _ => h
local macro_rules | `(tactic| o_head (kmHook $k $a $e $_)) => `(tactic| (apply @opened $k $a $e; (intro w; kernel_rfl); rfl; rfl; rfl))
local macro_rules | `(tactic| o_law) => `(tactic| apply lawed)
set_option maxRecDepth 100000 in
set_option maxHeartbeats 0 in
open_top hdk for PySem.Challenge.rw_ik0039_01
end Mine
end -- HdV
section -- R1
/-! Rules for an object of an own subclass of list (my own; generic in the written part K). -/
set_option maxRecDepth 100000
namespace Mine
open PySem PySem.W PySem.Calls PyProof.Rows Builtin Builtin.ObjectAttr
set_option maxHeartbeats 400000

theorem canon_list_ga : (Manifest.canonical "list.__getattribute__" != "object.__getattribute__") = false := PySem.canon_list_getattribute
theorem slot_list_ga : Slot "list" "__getattribute__" "list.__getattribute__" := PySem.F.slot_list_getattribute
theorem entry_list_ga : entryFor table "list.__getattribute__" = some Builtin.«object.__getattribute__» := PySem.F.entry_list_ga
theorem args_list_ga (a b : Value) : argsOk "list.__getattribute__" ⟨[a, b], []⟩ := PySem.F.args_list_getattribute_2 a b

/-- a post by a name of its own: the steps below do not copy it -/
theorem gen_post {α : Type} {M : Model} {A : Around} {E : Value → Shared → Prop} {s : Shared} {t : Sem α} {Q : α → Shared → Prop} (h : ∀ (Q' : α → Shared → Prop) (E' : Value → Shared → Prop), (∀ v s, Q v s → Q' v s) → wpAny M A t Q' E' s) : wpAny M A t Q E s := h Q E fun _ _ x => x
theorem len1 {α : Type} {l : List α} (h : l.length = 1) : ∃ a, l = [a] := by
  cases l with
  | nil => cases h
  | cons a r => exact ⟨a, congrArg _ (List.eq_nil_of_length_eq_zero (Nat.succ.inj h))⟩
theorem lenS {α : Type} {l : List α} {n : Nat} (h : l.length = n + 1) : ∃ a r, l = a :: r ∧ r.length = n := by
  cases l with
  | nil => cases h
  | cons a r => exact ⟨a, r, rfl, Nat.succ.inj h⟩
theorem len3 {α : Type} {l : List α} (h : l.length = 3) : ∃ a b c, l = [a, b, c] := by
  obtain ⟨a, r, rfl, h1⟩ := lenS h
  obtain ⟨b, r, rfl, h2⟩ := lenS h1
  obtain ⟨c, rfl⟩ := len1 h2
  exact ⟨a, b, c, rfl⟩
theorem len4 {α : Type} {l : List α} (h : l.length = 4) : ∃ a b c d, l = [a, b, c, d] := by
  obtain ⟨a, r, rfl, h1⟩ := lenS h
  obtain ⟨b, c, d, rfl⟩ := len3 h1
  exact ⟨a, b, c, d, rfl⟩
section
variable {prog : Program} {w : World} {A : Around} {E : Value → Shared → Prop} {s : Shared} {K : Frag} {x C dx L : Addr} {h₀ : Heap} {m : Str → Option Value} {news news' : List (Addr × Obj)} {ox od : Obj} {oo : Option Obj} {name : Str} {pl : Sem Bool} {expr : Bool}

/-- a bound method that is a def of the class -/
theorem lmethod_fn {Q : Value × List Value → Shared → Prop} (X : K.In s.heap) (I : InstAt s.heap x ox C oo) (hga : findIn K (.ref C) "__getattribute__" = some (some (.builtin "list.__getattribute__"))) (hk : findIn K (.ref C) "__getattr__" = some none)
    {fv : Value} {ft : String} (hf : findIn K (.ref C) name = some (some fv)) (ht : typeIn K fv = some (.type ft)) (hft : (ft == "function" || ft == "method_descriptor" || ft == "wrapper_descriptor") = true) (hs : shadowIn oo name = some false) (h : Q (fv, [.ref x]) s) :
    wpAny (model prog w) A (getMethod (.ref x) name pl) Q E s := by
  have hcan := canon_list_ga
  unfold getMethod specialOf
  refine wpAny_bind (wpAny_bind (I.type.here ((looks_findIn X hga).here ?_)))
  dsimp only
  rw [hcan, if_neg (by decide)]
  refine wpAny_bind (wpAny_bind (I.type.here ((looks_findIn X hk).here ?_)))
  refine wpAny_bind (wpAny_bind (I.type.here ((looks_findIn X hf).here (wpAny_bind ((looks_typeIn X ht).here ?_)))))
  have hno : ((Value.type ft != .type "function") && (Value.type ft != .type "method_descriptor") && (Value.type ft != .type "wrapper_descriptor")) = false := by
    simp only [Bool.or_eq_true, beq_iff_eq] at hft
    rcases hft with (e | e) | e <;> subst e <;> decide
  rw [hno, if_neg (by decide)]
  refine wpAny_bind (wpAny_loadPart I.at_ ?_)
  have hd := I.dict
  cases e : ox.dict with
  | none => exact wpAny_bind (wpAny_rule (wpAny_pure h))
  | some dx =>
    cases oo with
    | none => rw [e] at hd; exact hd.elim
    | some o =>
      rw [e] at hd
      obtain ⟨r, a, b⟩ := Option.map_eq_some_iff.mp hs
      refine wpAny_bind (wpAny_bind (wpAny_loadPart hd ?_))
      rw [nsLook_of a]
      refine wpAny_pure ?_
      rw [b]
      exact wpAny_bind (wpAny_rule (wpAny_pure h))

/-- an attribute held in the object's own dict -/
theorem lget_value {v : Value} {Q : Value → Shared → Prop} (X : K.In s.heap) (I : InstAt s.heap x ox C oo) (hga : findIn K (.ref C) "__getattribute__" = some (some (.builtin "list.__getattribute__"))) (hk : findIn K (.ref C) "__getattr__" = some none)
    (hm : mroIn K C (.type "list") = some true)
    (hf : findObj K C oo name = some (.value v)) (hh : handedIn v = true) (h : Q v { s with toks := s.toks + 1 }) : wpAny (model prog w) A (getAttr (.ref x) name expr) Q E s := by
  obtain ⟨hh', g, d, t, os⟩ := s
  have hne : (onTheHeap (.ref C) && Value.builtin "list.__getattribute__" == Value.builtin "object.__getattribute__") = false := by
    rw [show (Value.builtin "list.__getattribute__" == Value.builtin "object.__getattribute__") = false from by decide +kernel, Bool.and_false]
  have L0 := I.type (M := model prog w)
  have L1 := looks_findIn (M := model prog w) X hga
  have L2 := looks_findIn (M := model prog w) X hk
  have L3 := looks_find (M := model prog w) X I hf
  refine wpAny_bind (wpAny_mkText (wpAny_holding (wpAny_bind (L0.at (wpAny_bind (L1.at ?_))))))
  dsimp only
  rw [hne, if_neg (by decide)]
  refine wpAny_bind (Looks.at (show Looks (model prog w) hh' (hookBefore (.ref C)) none from L2) (wpAny_bind (wpAny_attempt (wpAny_holding ?_))))
  unfold callGetattribute
  rw [show (expr && onTheHeap (Value.builtin "list.__getattribute__")) = false from Bool.and_false _, if_neg (by decide)]
  unfold boundAndCalled
  rw [slot_list_ga.bind]
  refine wpAny_bind (wpAny_pure ?_)
  show wpAny _ _ (call (.builtin "list.__getattribute__") [.ref x, .str name t]) _ _ _
  refine wpAny_call ?_
  refine codeAny_call_builtin slot_list_ga.plain entry_list_ga ?_
  refine @check_slot (model prog w) _ _ ⟨hh', g, d, t + 1, os⟩ "list.__getattribute__" "list" "__getattribute__" (.ref x) [.str name t] [] _ (by decide +kernel) (by decide +kernel) (L0.andThen (looks_mroIn X hm)) (args_list_ga (.ref x) (.str name t)) ?_
  have e1 : slotArgs "__getattribute__" 1 ⟨[.ref x, .str name t], []⟩ = pure (.ref x, [.str name t]) := rfl
  have e2 : attrName (.str name t) = pure name := rfl
  unfold Builtin.«object.__getattribute__»
  refine wpAny_bind (wpAny_of_eq e1 ?_)
  refine wpAny_bind (wpAny_of_eq e2 ?_)
  refine wpAny_bind (L0.at ?_)
  refine wpAny_bind (L3.at ?_)
  refine wpAny_pure ?_
  show wpAny _ _ (handedOut v) _ _ _
  rw [handedOut_of hh]; exact wpAny_pure h
end
theorem sub_step {l i : Nat} (h : i < l) : l + 1 - (i + 1) < l + 1 - i := by omega
theorem le_chain {a b c d n : Nat} (h1 : a = b) (h2 : b ≤ c) (h3 : c < d) (h4 : d ≤ n) : a ≤ n := by omega
theorem lookup_keys {α β : Type} [BEq α] [LawfulBEq α] {k : α} : ∀ {l : List (α × β)}, (l.lookup k).isSome = true → k ∈ l.map Prod.fst
  | [], h => nomatch h
  | (k', v) :: l, h => by
    rw [List.lookup_cons] at h
    cases e : k == k' with
    | true => rw [eq_of_beq e]; exact .head _
    | false => rw [e] at h; exact .tail _ (lookup_keys h)
end Mine
end -- R1
section -- R2
/-! built-ins of list called upon an object of an own subclass -/
set_option maxRecDepth 100000
namespace Mine
open PySem PySem.W PySem.Calls PyProof.Rows Builtin
set_option maxHeartbeats 400000

section
variable {prog : Program} {w : World} {A : Around} {E : Value → Shared → Prop} {s : Shared} {K : Frag} {x C dx L : Addr} {h₀ : Heap} {m : Str → Option Value} {news news' : List (Addr × Obj)} {ox od : Obj} {oo : Option Obj} {name : Str} {pl : Sem Bool} {expr : Bool}

theorem check_sub {M : Model} {i owner n : String} {self : Value} {rest : List Value} {kw : List (Str × Value)} {Q : Unit → Shared → Prop}
    (hk : builtinKind i = some .slot ∨ builtinKind i = some .method) (hs : splitId i = some (owner, n)) (hi : Looks M s.heap (isInstance self (.type owner)) true) (ha : argsOk i ⟨self :: rest, kw⟩) (q : Q () s) :
    wpAny M A (checkBuiltinCall i ⟨self :: rest, kw⟩) Q E s := by
  rcases hk with hk | hk
  all_goals
    simp only [checkBuiltinCall, hk, hs]
    refine wpAny_bind (hi.here ?_)
    simp only [Bool.not_true, Bool.false_eq_true, if_false]
    cases hsig : Manifest.signature? i with
    | none => exact wpAny_pure q
    | some sig =>
      simp only [argsOk, hsig] at ha
      have h2 : Bind.checkArgs i sig ⟨self :: rest, kw⟩ = pure () := ha
      show wpAny M A (Bind.checkArgs i sig ⟨self :: rest, kw⟩) Q E s
      rw [h2]; exact wpAny_pure q

/-- a built-in of list upon an object of a class with list in its mro -/
theorem call_sub {i n : String} {b : Builtin} {rest : List Value} {Q : Value → Shared → Prop} (X : K.In s.heap) (I : InstAt s.heap x ox C oo) (hm : mroIn K C (.type "list") = some true)
    (hk : builtinKind i = some .slot ∨ builtinKind i = some .method) (hs : splitId i = some ("list", n)) (hp : plainId i = true) (hb : entryFor table i = some b)
    (ha : argsOk i ⟨.ref x :: rest, []⟩)
    (hc : wpAny (model prog w) A.in1 (b ⟨.ref x :: rest, []⟩) (fun fin s' => ∃ v, fin = .done (.ret v) ∧ Q v s') E s) :
    wpAny (model prog w) A (call (.builtin i) (.ref x :: rest)) Q E s := by
  refine wpAny_call (codeAny_call_builtin hp hb (check_sub hk hs (I.type.andThen (looks_mroIn X hm)) ha (wpAny_mono hc (fun fin s' h' => ?_) fun _ _ h' => h')))
  obtain ⟨v, rfl, hv⟩ := h'; exact hv

theorem kind_append : builtinKind "list.append" = some .slot ∨ builtinKind "list.append" = some .method := by first | exact .inl (by decide +kernel) | exact .inr (by decide +kernel)
theorem entry_append : entryFor table "list.append" = some Builtin.«list.append» := entryFor_of_tree (by kernel_rfl)
theorem args_append (a b : Value) : argsOk "list.append" ⟨[a, b], []⟩ := PySem.F.args_list_append_2 a b

noncomputable def lobj (C dx : Addr) (its : Array Value) (n : Nat) (sl : Array (Option Value)) : Obj := ⟨.ref C, some dx, .seq its n, sl⟩
theorem inst_acc {h : Heap} {a : Array Value} {n : Nat} {od : Obj} {sl : Array (Option Value)} (N : News h₀ L h news) (h1 : (x, (⟨.ref C, some dx, .seq a n, sl⟩ : Obj)) ∈ news) (h2 : (dx, od) ∈ news) :
    InstAt h x ⟨.ref C, some dx, .seq a n, sl⟩ C (some od) := ⟨(N _ h1).1, rfl, rfl, (N _ h2).1⟩


theorem lmethod_K {es : List DictEntry} {n : Nat} {Q : Value × List Value → Shared → Prop} {fv : Value} {ft : String} (F : Fr h₀ L s.heap m) (X₀ : K.In h₀) (I : InstAt s.heap x ox C (some (dictOf es n)))
    (hga : findIn K (.ref C) "__getattribute__" = some (some (.builtin "list.__getattribute__"))) (hk : findIn K (.ref C) "__getattr__" = some none)
    (hf : findIn K (.ref C) name = some (some fv)) (ht : typeIn K fv = some (.type ft)) (hft : (ft == "function" || ft == "method_descriptor" || ft == "wrapper_descriptor") = true) (hl : getL name es = some none) (h : Q (fv, [.ref x]) s) :
    wpAny (model prog w) A (getMethod (.ref x) name pl) Q E s :=
  lmethod_fn (X₀.keeps F.keep) I hga hk hf ht hft (by show (lookIn name (dictOf es n)).map _ = _; rw [lookIn_dict, hl]; rfl) h

theorem lget_K {es : List DictEntry} {n : Nat} {v : Value} {Q : Value → Shared → Prop} {attr : Option Value} (F : Fr h₀ L s.heap m) (X₀ : K.In h₀) (I : InstAt s.heap x ox C (some (dictOf es n)))
    (hga : findIn K (.ref C) "__getattribute__" = some (some (.builtin "list.__getattribute__"))) (hk : findIn K (.ref C) "__getattr__" = some none) (hm : mroIn K C (.type "list") = some true)
    (hh : hasDictIn K C = true) (ha : findIn K (.ref C) name = some attr) (hn : noGet K attr = true) (hl : getL name es = some (some v)) (hv : handedIn v = true) (h : Q v { s with toks := s.toks + 1 }) :
    wpAny (model prog w) A (getAttr (.ref x) name expr) Q E s :=
  lget_value (X₀.keeps F.keep) I hga hk hm (findObj_own hh ha hn hl) hv h
end
end Mine
end -- R2
section -- W1
/-! iterating over an object of an own subclass of list -/
set_option maxRecDepth 100000
namespace Mine
open PySem PySem.W PySem.Calls PyProof.Rows Builtin
set_option maxHeartbeats 400000

noncomputable def IsSq (h : Heap) (a : Addr) (items : Array Value) : Prop := ∃ o, h.get? a = some o ∧ ∃ n, o.data = .seq items n
theorem IsSq.extBut {h h' : Heap} {a b items} (x : IsSq h a items) (hs : Heap.ExtBut b h h') (hab : a ≠ b) : IsSq h' a items := let ⟨o, ho, r⟩ := x; ⟨o, hs a o hab ho, r⟩
theorem IsSq.push {h : Heap} {a items} (x : IsSq h a items) (o : Obj) : IsSq (h.push o) a items := let ⟨o', ho, r⟩ := x; ⟨o', Heap.get?_push_of_some o ho, r⟩
theorem IsSq.at' {h h' : Heap} {a items} (x : IsSq h a items) (hk : ∀ o, h.get? a = some o → h'.get? a = some o) : IsSq h' a items := let ⟨o, ho, r⟩ := x; ⟨o, hk o ho, r⟩

section
variable {prog : Program} {w : World} {A : Around} {E : Value → Shared → Prop} {s : Shared} {K : Frag} {x C : Addr} {ox : Obj} {oo : Option Obj}

theorem pyNext_sq_item {it l : Addr} {i : Nat} {items} {x : Value} {Q : Option Value → Shared → Prop} (hit : s.heap.IsListIter it l i)
    (hl : IsSq s.heap l items) (hx : items[i]? = some x)
    (hQ : ∀ h', h'.IsListIter it l (i + 1) → Heap.SameBut it s.heap h' → Q (some x) { s with heap := h' }) :
    wpAny (model prog w) A (pyNext (.ref it)) Q E s := by
  obtain ⟨o, ho, hc, hd⟩ := id hit
  obtain ⟨ol, hol, nl, hdl⟩ := hl
  unfold pyNext
  refine wpAny_bind (wpAny_attempt (wpAny_callSpecial?_slot (name := Str.ofString "__next__") hit.typeIs slot_listiter_next
    (wpAny_call_entry slot_listiter_next hit.typeIs entry_listiter_next ?_ (args_listiter_next _))))
  show wpAny _ _ (field (.ref it) 0 >>= _) _ _ s
  refine wpAny_bind (wpAny_field ho hd (x := .ref l) rfl ?_)
  show wpAny _ _ (if (Value.ref l == Value.none) = true then _ else _) _ _ s
  rw [if_neg (show ¬ ((Value.ref l == Value.none) = true) from Bool.false_ne_true)]
  show wpAny _ _ (field (.ref it) 1 >>= _) _ _ s
  refine wpAny_bind (wpAny_field ho hd (x := .int i 0) rfl ?_)
  show wpAny _ _ (seqItems? (.ref l) >>= _) _ _ s
  refine wpAny_bind (wpAny_seqItems hol hdl ?_)
  simp only [Int.toNat_natCast, hx]
  refine wpAny_bind (wpAny_setField ho hd (by simp) (wpAny_pure ⟨x, rfl, wpAny_pure (hQ _ ?_ (Heap.SameBut.update ..))⟩))
  exact ⟨_, Heap.get?_update_self _ ho (Obj.isFreed_of_fields (Obj.data_mapFields hd _)), (Obj.cls_mapFields ..).trans hc, by
    rw [Obj.data_mapFields hd]; simp [rawInt]⟩

theorem pyNext_sq_end {it l : Addr} {i : Nat} {items} {Q : Option Value → Shared → Prop} (hh : A.handled = none)
    (hit : s.heap.IsListIter it l i) (hl : IsSq s.heap l items) (hx : items[i]? = none)
    (hQ : ∀ h', Heap.ExtBut it s.heap h' → Q none { s with heap := h' }) : wpAny (model prog w) A (pyNext (.ref it)) Q E s := by
  obtain ⟨o, ho, hc, hd⟩ := id hit
  obtain ⟨ol, hol, nl, hdl⟩ := hl
  unfold pyNext
  refine wpAny_bind (wpAny_attempt (wpAny_callSpecial?_slot (name := Str.ofString "__next__") hit.typeIs slot_listiter_next
    (wpAny_call_entry slot_listiter_next hit.typeIs entry_listiter_next ?_ (args_listiter_next _))))
  show wpAny _ _ (field (.ref it) 0 >>= _) _ _ s
  refine wpAny_bind (wpAny_field ho hd (x := .ref l) rfl ?_)
  show wpAny _ _ (if (Value.ref l == Value.none) = true then _ else _) _ _ s
  rw [if_neg (show ¬ ((Value.ref l == Value.none) = true) from Bool.false_ne_true)]
  show wpAny _ _ (field (.ref it) 1 >>= _) _ _ s
  refine wpAny_bind (wpAny_field ho hd (x := .int i 0) rfl ?_)
  show wpAny _ _ (seqItems? (.ref l) >>= _) _ _ s
  refine wpAny_bind (wpAny_seqItems hol hdl ?_)
  simp only [Int.toNat_natCast, hx]
  refine wpAny_bind (wpAny_rule (wpAny_bind (wpAny_setField ho hd (by simp) ?_)))
  show wpAny _ _ (newExc (.type "StopIteration") [] >>= _) _ _ _
  refine wpAny_bind ?_
  simp only [newExc, newTuple]
  refine wpAny_bind (wpAny_newObj_type ?_ (by size_fits))
  refine wpAny_bind (m := firstArgMember _ _) (wpAny_of_eq (a := Value.none) (by first | rfl | (simp only [firstArgMember]; rfl)) ?_)
  refine wpAny_newObj_type ?_ (by size_fits)
  simp only [raiseNew]
  refine wpAny_bind (wpAny_handled ?_)
  rw [show A.in1.handled = none from hh]
  refine wpAny_bind (wpAny_pure (wpAny_throw ?_))
  refine wpAny_bind (wpAny_isInstance (T := "StopIteration") (b := true) ⟨_, Heap.get?_push_size _ rfl, rfl⟩ isSubtype_stop ?_)
  exact wpAny_pure (hQ _ (((Heap.SameBut.update ..).extBut.push _).push _))

theorem walks_sq (hh : A.handled = none) (I ax : Addr) (hne : ax ≠ I) (items : Array Value) (Ts : Nat → Addr) (vals : Nat → Array Value)
    (hit : ∀ j, j < items.size → items[j]? = some (.ref (Ts j))) (hTI : ∀ j, j < items.size → Ts j ≠ I) :
    WalksU prog w A I (I :: ax :: (List.range items.size).map Ts) [I] items.size (fun j v => v = vals j)
      (fun j h => h.IsListIter I ax j ∧ IsSq h ax items ∧ ∀ k, k < items.size → h.IsTuple (Ts k) (vals k))
      (fun j T h => (j < items.size ∧ T = Ts j) ∧ h.IsListIter I ax (j + 1) ∧ IsSq h ax items ∧ ∀ k, k < items.size → h.IsTuple (Ts k) (vals k)) where
  sub := fun b hb => by simp at hb; simp [hb]
  frame := fun _ _ _ st hk => ⟨st.1.at fun o e => hk I (by simp) o e, st.2.1.at' fun o e => hk ax (by simp) o e,
    fun k hk' => (st.2.2 k hk').at fun o e => hk (Ts k) (List.mem_cons_of_mem _ (List.mem_cons_of_mem _ (List.mem_map.mpr ⟨k, List.mem_range.mpr hk', rfl⟩))) o e⟩
  item := fun i s Q E hi st hQ => by
    refine pyNext_sq_item st.1 st.2.1 (x := .ref (Ts i)) (hit i hi) fun h' hit' hs' => ?_
    have tup : ∀ k, k < items.size → h'.IsTuple (Ts k) (vals k) := fun k hk' => (st.2.2 k hk').extBut hs'.extBut (hTI k hk')
    exact hQ (Ts i) (vals i) h' s.toks rfl (tup i hi) ⟨⟨hi, rfl⟩, hit', st.2.1.extBut hs'.extBut hne, tup⟩ fun b o hb e => hs'.extBut b o (fun h => hb (by simp [h])) e
  go := fun _ _ _ _ _ s Q _ hm hQ => wpAny_letOwnedTupleGo_listiter hm.2.1 (hQ s.heap hm.2 fun _ _ _ e => e)
  apart := fun j T _ hm hmem => by
    rcases List.mem_cons.mp hmem with e | e
    · exact hTI j hm.1.1 (hm.1.2 ▸ e)
    · cases e
  done := fun s Q E st hQ => pyNext_sq_end hh st.1 st.2.1 (by simp) fun h' he' => hQ h' s.toks fun b o hb e => he' b o (fun h => hb (by simp [h])) e
  self := fun _ _ _ _ st hQ => wpAny_pyIter_listiter st.1 hQ

theorem kind_iter : builtinKind "list.__iter__" = some .slot ∨ builtinKind "list.__iter__" = some .method := by first | exact .inl (by decide +kernel) | exact .inr (by decide +kernel)

/-- iter(x) of a list subclass that has list's own __iter__ -/
theorem pyIter_sub {Q : Value → Shared → Prop} (X : K.In s.heap) (I : InstAt s.heap x ox C oo) (hm : mroIn K C (.type "list") = some true) (hi : findIn K (.ref C) "__iter__" = some (some (.builtin "list.__iter__")))
    (hQ : Q (.ref s.heap.objs.size) { s with heap := s.heap.push { cls := .type "list_iterator", data := .fields #[.ref x, .int 0 0] } }) :
    wpAny (model prog w) A (pyIter (.ref x)) Q E s := by
  have hsp : Looks (model prog w) s.heap (specialOf (.ref x) "__iter__") (some (.builtin "list.__iter__")) := I.type.andThen (looks_findIn X hi)
  have hcall : ∀ (A' : Around) (R : Value → Shared → Prop), R (.ref s.heap.objs.size) { s with heap := s.heap.push { cls := .type "list_iterator", data := .fields #[.ref x, .int 0 0] } } →
      wpAny (model prog w) A' (call (.builtin "list.__iter__") [.ref x]) R E s := fun A' R hR => by
    refine call_sub (n := "__iter__") X I hm kind_iter (by decide +kernel) (by decide +kernel) entry_list_iter (args_list_iter _) ?_
    show wpAny _ _ (do ret (← newFields "list_iterator" [.ref x, rawInt 0])) _ _ s
    exact wpAny_bind (wpAny_newObj_type (wpAny_pure ⟨_, rfl, hR⟩))
  unfold pyIter
  refine wpAny_bind (hsp.here ?_)
  show wpAny _ A (callSpecialIfBoundUnlessNone? (.ref x) "__iter__" _ >>= _) Q E s
  refine wpAny_bind ?_
  simp only [callSpecialIfBoundUnlessNone?, bindSpecialIfBound?]
  refine wpAny_holding (wpAny_bind (wpAny_bind (hsp.here ?_)))
  simp only [slot_list_iter.bind]
  refine wpAny_bind (wpAny_askSetting (wpAny_ite ?_))
  have hnext : ∀ (Q' : Option Value → Shared → Prop), (∀ r, Q' (some r) { s with heap := s.heap.push { cls := .type "list_iterator", data := .fields #[.ref x, .int 0 0] } }) →
      wpAny (model prog w) A (specialOf (.ref s.heap.objs.size) "__next__") Q' E { s with heap := s.heap.push { cls := .type "list_iterator", data := .fields #[.ref x, .int 0 0] } } := fun Q' hq =>
    wpAny_specialOf (T := "list_iterator") ⟨_, Heap.get?_push_size _ rfl, rfl⟩ slot_listiter_next.lookup (hq _)
  have fin : ∀ (refuse : Sem Value), wpAny (model prog w) A (if (Value.builtin "list.__iter__" == Value.none) = true then (refuse >>= fun v => pure (some v)) else (call (.builtin "list.__iter__") ([.ref x]) >>= fun v => pure (some v)))
      (fun a s' => wpAny (model prog w) A (match a with
        | some it => do match ← specialOf it "__next__" with
          | none => do rule "iter.non-iterator"; raiseError "TypeError" s!"iter() returned non-iterator of type '{← typeNameOf it}'"
          | some _ => pure it
        | none => do match ← bindSpecialIfBound? (.ref x) "__getitem__" with
          | none => do rule "iter.not-iterable"; raiseError "TypeError" s!"'{← typeNameOf (.ref x)}' object is not iterable"
          | some _ => do rule "iter.getitem-fallback"; newFields "iterator" [.ref x, ← mkInt 0]) Q E s') E s := fun refuse => by
    rw [if_neg (show ¬ ((Value.builtin "list.__iter__" == Value.none) = true) from Bool.false_ne_true)]
    exact wpAny_bind (hcall _ _ (wpAny_pure (wpAny_bind (hnext _ fun r => wpAny_pure hQ))))
  split
  · exact wpAny_bind (wpAny_pure (wpAny_pure (fin _)))
  · exact wpAny_tryCatch (wpAny_bind (wpAny_pure (wpAny_pure (fin _))))
end
end Mine
end -- W1
section -- W2
/-! sum(iterable, start) over a walk -/
set_option maxRecDepth 100000
namespace Mine
open PySem PySem.W PySem.Calls PyProof.Rows Builtin
set_option maxHeartbeats 400000

section
variable {prog : Program} {w : World} {A : Around} {E : Value → Shared → Prop} {s : Shared}

theorem walksS_shift {I : Addr} {fp wr : List Addr} {G : Array GenState → Array GenState → Prop} {n : Nat} {P : Nat → Value → Prop} {St : Nat → Shared → Prop} (P0 : Value → Prop) (W : WalksS prog w A I fp wr G n P St) :
    WalksS prog w A I fp wr G (n + 1) (fun i v => match i with | 0 => P0 v | i + 1 => P i v) (fun i s => match i with | 0 => False | i + 1 => St i s) where
  sub := W.sub
  grefl := W.grefl
  gtrans := W.gtrans
  frame := fun i s h' tk hst htk hk => by cases i with | zero => exact hst.elim | succ i => exact W.frame i s h' tk hst htk hk
  item := fun i s Q E hi hst hQ => by cases i with | zero => exact hst.elim | succ i => exact W.item i s Q E (Nat.lt_of_succ_lt_succ hi) hst hQ
  done := fun s Q E hst hQ => W.done s Q E hst hQ
  self := fun i s Q E hst hQ => by cases i with | zero => exact hst.elim | succ i => exact W.self i s Q E hst hQ

theorem args_sum2 (a b : Value) : argsOk "sum" ⟨[a, b], []⟩ := by unfold argsOk; kernel_rfl

noncomputable def startVal (c : Int) (val : Nat → Int) : Nat → Int | 0 => c | i + 1 => val i

theorem call_sum2_walkS {x : Value} {c : Int} {tc : Tok} {Q : Value → Shared → Prop} (hc0 : InLong c)
    (h : wpAny (model prog w) A.in1 (pyIter x) (fun it s₂ => ∃ I fp wr G n P St val, it = .ref I ∧ WalksS prog w A.in1 I fp wr G n P St ∧ St 0 s₂ ∧ (∀ b ∈ fp, b < s₂.heap.objs.size) ∧
      (∀ i v, P i v → ∃ t, v = .int (val i) t) ∧ (∀ j, j < n → InLong (val j) ∧ InLong (preSum (startVal c val) (j + 2))) ∧
      ∀ s' t', Moved wr G s₂ s' → Q (.int (preSum (startVal c val) (n + 1)) t') s') E s) :
    wpAny (model prog w) A (call (.builtin "sum") [x, .int c tc]) Q E s := by
  refine call_function_tree F.kind_sum F.plain_sum F.entry_sum (args_sum2 _ _) ?_
  unfold Builtin.«sum»
  simp only [List.length_cons, List.length_nil]
  rw [if_neg (by decide)]
  refine wpAny_bind (wpAny_of_eq (show Builtin.Builtins.bindParams "sum" ["start"] 0 ⟨[.int c tc], []⟩ = pure [some (.int c tc)] from rfl) ?_)
  refine wpAny_bind (wpAny_mono h (fun it s₂ h₂ => ?_) fun _ _ e => e)
  obtain ⟨I, fp, wr, G, n, P, St, val, rfl, W, hst, hfp, hval, hfit, hQ⟩ := h₂
  have hfl : (decide (-(2 ^ 63) ≤ c) && decide (c < 2 ^ 63)) = true := by simp only [Bool.and_eq_true, decide_eq_true_eq]; exact hc0
  dsimp only
  split
  case isFalse hneg => exact absurd hfl hneg
  refine wpAny_bind (wpAny_rule (wpAny_bind (wpAny_mkInt (wpAny_bind (wpAny_pure ?_)))))
  simp only [List.forIn_cons, List.forIn_nil]
  refine wpAny_bind (wpAny_bind (wpAny_bind (wpAny_isInstance (T := "int") (b := false) (typeIs_int _ _ _) PySem.sub_int_str ?_)))
  simp only [Bool.false_eq_true, if_false]
  refine wpAny_pure (wpAny_bind (wpAny_bind (wpAny_isInstance (T := "int") (b := false) (typeIs_int _ _ _) PySem.sub_int_bytes ?_)))
  simp only [Bool.false_eq_true, if_false]
  refine wpAny_pure (wpAny_bind (wpAny_bind (wpAny_isInstance (T := "int") (b := false) (typeIs_int _ _ _) PySem.sub_int_bytearray ?_)))
  simp only [Bool.false_eq_true, if_false]
  refine wpAny_pure (wpAny_pure ?_)
  refine wpAny_bind (wpAny_newObj_type ?_)
  have hSf : s₂.heap.objs.size ∉ fp := fun hm => Nat.lt_irrefl _ (hfp _ hm)
  have hp1 : preSum (startVal c val) 1 = c := by simp [preSum, startVal]
  refine wpAny_pure ⟨plainId_quiet F.plain_sum_loop _, codeAny_sum_loopS (walksS_shift (fun v => ∃ t, v = .int c t) W) (startVal c val) (fun i v hv => ?_) (fun j hj => ?_) s₂.heap.objs.size hSf n 1 _ s₂.toks 0 (by omega) (by omega)
    (W.frame 0 s₂ _ _ hst (by first | exact Nat.le_refl _ | exact Nat.le_succ _ | omega) fun b _ o e => Heap.get?_push_of_some _ e) (by rw [hp1]; exact Heap.get?_push_size _ rfl) fun s' t' hm => ?_⟩
  · cases i with
    | zero => exact hv
    | succ i => exact hval i v hv
  · cases j with
    | zero => exact ⟨hc0, by rw [hp1]; exact hc0⟩
    | succ j => exact hfit j (Nat.lt_of_succ_lt_succ hj)
  exact hQ s' t' (hm.drop_new (by first | exact Nat.le_refl _ | exact Nat.le_succ _ | omega))
end
end Mine
end -- W2
section -- W3
/-! a generator expression (a, b over self) upon an object of an own subclass of list -/
set_option maxRecDepth 100000
namespace Mine
open PySem PySem.W PySem.Calls PyProof.Rows Builtin
set_option maxHeartbeats 400000

section
variable {prog : Program} {w : World} {A : Around} {E : Value → Shared → Prop} {s : Shared} {K : Frag} {x C₀ : Addr} {ox : Obj} {oo : Option Obj} {c P : Addr} {ps : Array Value}

theorem codeAt_found {env : Env} {pos : Pos} {c' : Value} {make : CodeContext → Sem Value} {Q : Value → Shared → Prop} {M : Model} (hc : env.code = .ref c) (hok : s.heap.IsCode c P ps) (hf : codeAmong pos ps.toList = some c') (hQ : Q c' s) :
    wpAny M A (codeAt env pos make) Q E s := by
  obtain ⟨o, vs, file, tf, flags, tg, inF, text, tt, op, ho, hd, h11, h2, h7, h9, h10, hop, hpd, htr, hne⟩ := id hok
  unfold codeAt
  rw [hc, if_neg (show ¬ ((Value.ref c == Value.none) = true) from Bool.false_ne_true)]
  refine wpAny_bind (wpAny_fieldsOf ho hd ?_)
  rw [h11]
  refine wpAny_bind (wpAny_fieldsOf hop hpd ?_)
  rw [hf]
  exact wpAny_pure hQ

theorem genexp_sq {env : Env} {elt iter : Expr} {xa xb : Str} {pa pb pt : Pos} {kt : Nat} {scope : Scope} {cl : List (Str × Addr)} {pos : Pos} {Q : Value → Shared → Prop} {items : Array Value} {Ts : Nat → Addr} {vals : Nat → Array Value} {Fv : Nat → Value → Prop}
    {mg : Str → Option Value} {bm : Addr} {ob : Obj}
    (hh : A.handled = none) (hco : scope.isCoroutine = false) (hclos : closureFor scope env = pure cl) (hcell : ∀ y ∈ scope.names, y.2 ≠ .cell) (h0 : scope.names.lookup (".0" : Str) = some NameKind.local)
    (hxa : scope.names.lookup xa = some .local) (hxb : scope.names.lookup xb = some .local) (hab : xa ≠ xb) (hkind : scope.kind = .function) (hroom : A.depth < recursionLimit) (hs : ∀ x, genFold iter env x = pure x)
    (hcode : env.code = .ref c) (hok : s.heap.IsCode c P ps) (htab : s.heap.TableAt c P ps) (hfound : codeAmong pos ps.toList = none ∨ ∃ c', codeAmong pos ps.toList = some (.ref c'))
    (hiter : ∀ R : Value → Shared → Prop, R (.ref x) s → wpAny (model prog w) A (eval iter env) R E s)
    (X : K.In s.heap) (I : InstAt s.heap x ox C₀ oo) (hm : mroIn K C₀ (.type "list") = some true) (hi : findIn K (.ref C₀) "__iter__" = some (some (.builtin "list.__iter__")))
    (hsq : ox.data = .seq items 0 ∨ ∃ n, ox.data = .seq items n)
    (hit : ∀ j, j < items.size → items[j]? = some (.ref (Ts j))) (htup : ∀ j, j < items.size → s.heap.IsTuple (Ts j) (vals j)) (hpair : ∀ j, j < items.size → ∃ va vb, vals j = #[va, vb])
    (hlim : s.heap.NoLimit) (M : BMod s.heap env.globals mg bm ob)
    (helt : ∀ (C : Addr) (code : Value) (A' : Around) E' k va vb (t : Shared) m₂, A'.handled = none → A'.depth ≤ A.depth + 1 → A'.units ≤ A.units + 8 → k < items.size → vals k = #[va, vb] → t.heap.Ns C m₂ → m₂ xa = some va → m₂ xb = some vb → s.heap.objs.size ≤ C →
      (∀ b o, b ≠ P → s.heap.get? b = some o → t.heap.get? b = some o) → wpAny (model prog w) A' (eval elt (genEnv scope cl C code builtinsNs env)) (fun y s₃ => Fv k y ∧ Keeps t s₃) E' t)
    (hQ : ∀ a (h₅ : Heap) tk gs ps' fp wr St, gs.bare = true → (∀ b o, b ≠ P → s.heap.get? b = some o → h₅.get? b = some o) → h₅.IsCode c P ps' → h₅.TableAt c P ps' → (ps' = ps ∨ (codeAmong pos ps.toList = none ∧ ∃ c', ps' = ps ++ #[rawInt pos.line, rawInt pos.col, .ref c'])) →
      WalksS prog w A.in4 a fp wr (GenOnlyQ s.gens.size) items.size Fv St → St 0 { s with gens := s.gens.push gs, toks := tk, heap := h₅ } → (∀ b ∈ fp, b < h₅.objs.size) → (∀ b ∈ wr, s.heap.objs.size ≤ b) → (∀ i s', St i s' → s'.TypeIs (.ref a) "generator") → a ∈ fp → s.heap.objs.size ≤ a → a ∉ wr →
      Q (.ref a) { s with gens := s.gens.push gs, toks := tk, heap := h₅ }) :
    wpAny (model prog w) A (eval (.GeneratorExp elt [⟨.Tuple [.Name xa pa, .Name xb pb] kt pt, iter, [], 0⟩] scope pos) env) Q E s := by
  have hsq' : IsSq s.heap x items := ⟨ox, I.at_, by rcases hsq with h | h; exact ⟨0, h⟩; exact h⟩
  have hcP : cStatics ≠ P := fun e => by
    obtain ⟨_, hns, _⟩ := hlim
    obtain ⟨o, es, ep, ho, hd, _⟩ := hns
    rw [e, htab.2] at ho; cases ho; cases hd
  have hxlt : x < s.heap.objs.size := Heap.lt_size I.at_
  have hxP : x ≠ P := fun e => by
    have z := I.at_; rw [e, htab.2] at z; cases z; exact absurd I.cls (by simp)
  have hTP : ∀ j, j < items.size → Ts j ≠ P := fun j hj e => by
    obtain ⟨o, ho, hc, _⟩ := htup j hj
    rw [e, htab.2] at ho; cases ho; exact absurd hc (by simp)
  have hTlt : ∀ j, j < items.size → Ts j < s.heap.objs.size := fun j hj => let ⟨_, e, _⟩ := htup j hj; Heap.lt_size e
  refine wpAny_GeneratorExp_walksQTD hh hco hclos hcell h0 hxa hxb hab hkind hroom (hiter _ (pyIter_sub X I hm hi ?_)) hs
  -- the state behind iter()
  generalize hs₂ : ({ s with heap := s.heap.push { cls := .type "list_iterator", data := .fields #[.ref x, .int 0 0] } } : Shared) = s₂
  have keep₂ : ∀ b o, s.heap.get? b = some o → s₂.heap.get? b = some o := fun b o e => by subst hs₂; exact Heap.get?_push_of_some _ e
  have size₂ : s₂.heap.objs.size = s.heap.objs.size + 1 := by subst hs₂; exact Heap.size_push _ _
  have it₂ : s₂.heap.IsListIter s.heap.objs.size x 0 := by subst hs₂; exact ⟨_, Heap.get?_push_size _ rfl, rfl, rfl⟩
  have gens₂ : s₂.gens = s.gens := by subst hs₂; rfl
  have rest₂ : ∀ g tk h', ({ s₂ with gens := g, toks := tk, heap := h' } : Shared) = { s with gens := g, toks := tk, heap := h' } := fun _ _ _ => by subst hs₂; rfl
  have W := fun (A' : Around) (hA : A'.handled = none) => (walks_sq (prog := prog) (w := w) hA s.heap.objs.size x (Nat.ne_of_lt hxlt) items Ts vals hit fun j hj => Nat.ne_of_lt (hTlt j hj)).bound
  have passAll : ∀ n i, passing (fun _ => true) n i = (List.range n).drop i := fun n i => by simp [passing]
  have passLen : (passing (fun _ => true) items.size 0).length = items.size := by simp [passAll]
  refine ⟨hlim.keeps keep₂, ?_⟩
  -- the rest, for either state of the table
  have rest : ∀ (h₃ : Heap) (tk₃ : Nat) (code : Value) (ps' : Array Value), Heap.ExtBut P s₂.heap h₃ → s₂.heap.objs.size ≤ h₃.objs.size → h₃.IsCode c P ps' → h₃.TableAt c P ps' → (ps' = ps ∨ (codeAmong pos ps.toList = none ∧ ∃ c', ps' = ps ++ #[rawInt pos.line, rawInt pos.col, .ref c'])) →
      wpAny (model prog w) A (builtinsFor env.globals env.builtins) (fun bi s₄ => ∃ I fp wr n₀ Pt St₀ Mid pz F, (Value.ref s.heap.objs.size) = .ref I ∧ (∀ A' : Around, A'.handled = none → WalksU prog w A' I fp wr n₀ Pt St₀ Mid) ∧ (∀ i vals, Pt i vals → ∃ va vb, vals = #[va, vb]) ∧ St₀ 0 s₄.heap ∧ (∀ b ∈ fp, b < s₄.heap.objs.size) ∧ s₄.heap.NoLimit ∧ cStatics ∉ wr ∧
          (∀ href : Heap, (∀ b o, s₄.heap.get? b = some o → href.get? b = some o) →
            QuietGenTD prog w (genEnv scope cl s₄.heap.objs.size code bi env) xa xb [] elt (List.range s₄.heap.objs.size) wr Pt pz F href (A.depth + 1) (A.units + 8)) ∧
          (∀ a h₅ tk gs, gs.bare = true → s₄.heap.objs.size < a → h₅.objs.size = a + 1 → (∀ b o, s₄.heap.get? b = some o → h₅.get? b = some o) →
            WalksS prog w A.in4 a (a :: s₄.heap.objs.size :: List.range s₄.heap.objs.size) (s₄.heap.objs.size :: wr) (GenOnlyQ s₄.gens.size) (passing pz n₀ 0).length
              (fun j y => ∃ i, (passing pz n₀ 0)[j]? = some i ∧ F i y) (GenAt prog w A.in4 a s₄.gens.size s₄.heap.objs.size (List.range s₄.heap.objs.size) wr pz n₀ F) →
            GenAt prog w A.in4 a s₄.gens.size s₄.heap.objs.size (List.range s₄.heap.objs.size) wr pz n₀ F 0 { s₄ with gens := s₄.gens.push gs, toks := tk, heap := h₅ } →
            Q (.ref a) { s₄ with gens := s₄.gens.push gs, toks := tk, heap := h₅ })) E { s₂ with heap := h₃, toks := tk₃ } := by
    intro h₃ tk₃ code ps' hx₃ hsz₃ hcode₃ htab₃ hps'
    have htab₂ : s₂.heap.TableAt c P ps := htab.keeps keep₂
    have M₃ : BMod h₃ env.globals mg bm ob := (M.keeps keep₂).extBut htab₂ hx₃
    have hl₃ : h₃.NoLimit := (hlim.keeps keep₂).extBut hx₃ hcP
    have hsP : s.heap.objs.size ≠ P := fun e => by
      have z := Heap.lt_size htab.2; rw [← e] at z; exact Nat.lt_irrefl _ z
    refine wpAny_builtinsFor M₃.ns M₃.name M₃.ne M₃.obj M₃.cls M₃.dict M₃.data ?_
    have st₃ : h₃.IsListIter s.heap.objs.size x 0 ∧ IsSq h₃ x items ∧ ∀ k, k < items.size → h₃.IsTuple (Ts k) (vals k) :=
      ⟨it₂.extBut hx₃ hsP, (hsq'.at' (h' := s₂.heap) fun o e => keep₂ _ _ e).extBut hx₃ hxP, fun k hk => ((htup k hk).at (h' := s₂.heap) fun o e => keep₂ _ _ e).extBut hx₃ (hTP k hk)⟩
    refine ⟨s.heap.objs.size, _, [s.heap.objs.size], items.size, _, _, _, (fun _ => true), Fv, rfl, W, (fun i v hv => ?_), st₃, (fun b hb => ?_), hl₃, (fun hmem => ?_), (fun href hhref => ?_), fun a h₅ tk gs hgb hag hsz₅ hk₅ Wg hat => ?_⟩
    · obtain ⟨hi', rfl⟩ := hv; exact hpair i hi'
    · show b < h₃.objs.size
      refine Nat.lt_of_lt_of_le ?_ hsz₃
      rw [size₂]
      rcases List.mem_cons.mp hb with rfl | hb
      · exact Nat.lt_succ_self _
      · rcases List.mem_cons.mp hb with rfl | hb
        · exact Nat.lt_succ_of_lt hxlt
        · obtain ⟨k, hk, rfl⟩ := List.mem_map.mp hb
          exact Nat.lt_succ_of_lt (hTlt k (List.mem_range.mp hk))
    · rcases List.mem_cons.mp hmem with e | e
      · obtain ⟨_, hns, _⟩ := hlim
        have z := hns.lt; rw [e] at z; exact Nat.lt_irrefl _ z
      · cases e
    · have inB : ∀ (t : Shared), (∀ b ∈ List.range h₃.objs.size, b ∉ [s.heap.objs.size] → ∀ o, href.get? b = some o → t.heap.get? b = some o) → ∀ b o, b ≠ P → s.heap.get? b = some o → t.heap.get? b = some o := fun t hkp b o hbP e =>
        hkp b (List.mem_range.mpr (Heap.lt_size (hx₃ b o hbP (keep₂ b o e)))) (fun hm => by rcases List.mem_cons.mp hm with e' | e'; exact absurd (e' ▸ Heap.lt_size e) (Nat.lt_irrefl _); cases e') o (hhref b o (hx₃ b o hbP (keep₂ b o e)))
      refine ⟨fun A' E' i va vb t m₂ hA hD hU hP hn hma hmb hkp => ?_, fun A' E' i va vb t m₂ hA hD hU hP _ hn hma hmb hkp => ?_⟩
      · simp only [List.forIn_nil]
        exact wpAny_pure ⟨rfl, t.heap, t.toks, rfl, fun _ _ e => e⟩
      · obtain ⟨hi', hv⟩ := hP
        exact helt h₃.objs.size code A' E' i va vb t m₂ hA hD hU hi' hv.symm hn hma hmb (by rw [size₂] at hsz₃; omega) (inB t hkp)
    · have hgs : ({ s₂ with heap := h₃, toks := tk₃ } : Shared).gens.size = s.gens.size := by show s₂.gens.size = _; rw [gens₂]
      have e5 : ({ ({ s₂ with heap := h₃, toks := tk₃ } : Shared) with gens := ({ s₂ with heap := h₃, toks := tk₃ } : Shared).gens.push gs, toks := tk, heap := h₅ } : Shared) = { s with gens := s.gens.push gs, toks := tk, heap := h₅ } := by
        subst hs₂; rfl
      rw [e5] at hat ⊢
      rw [hgs] at Wg hat
      have W' : WalksS prog w A.in4 a (a :: h₃.objs.size :: List.range h₃.objs.size) (h₃.objs.size :: [s.heap.objs.size]) (GenOnlyQ s.gens.size) items.size Fv (GenAt prog w A.in4 a s.gens.size h₃.objs.size (List.range h₃.objs.size) [s.heap.objs.size] (fun _ => true) items.size Fv) := by
        rw [passLen] at Wg
        refine Wg.imp fun j y hy => ?_
        obtain ⟨i, hij, hF⟩ := hy
        rw [passAll] at hij
        have : i = j := by
          simp only [List.drop_zero] at hij
          obtain ⟨hlt, e⟩ := List.getElem?_eq_some_iff.mp hij
          simpa using e.symm
        exact this ▸ hF
      refine hQ a h₅ tk gs ps' _ _ _ hgb (fun b o hbP e => hk₅ b o (hx₃ b o hbP (keep₂ b o e))) (hcode₃.keeps hk₅) (htab₃.keeps hk₅) hps' W' hat (fun b hb => ?_) (fun b hb => ?_) (fun i s' st => st.1.typeIs) List.mem_cons_self (by rw [size₂] at hsz₃; have : h₃.objs.size < a := hag; omega) (fun hmem => ?_)
      · show b < h₅.objs.size
        rw [hsz₅]
        rcases List.mem_cons.mp hb with rfl | hb
        · exact Nat.lt_succ_self _
        · rcases List.mem_cons.mp hb with rfl | hb
          · exact Nat.lt_succ_of_lt hag
          · exact Nat.lt_succ_of_lt (Nat.lt_trans (List.mem_range.mp hb) hag)
      · rcases List.mem_cons.mp hb with rfl | hb
        · rw [size₂] at hsz₃; omega
        · rcases List.mem_cons.mp hb with rfl | hb
          · exact Nat.le_refl _
          · cases hb
      · have : h₃.objs.size < a := hag
        rcases List.mem_cons.mp hmem with e | e
        · exact Nat.ne_of_gt this e
        · rcases List.mem_cons.mp e with e | e
          · exact Nat.ne_of_gt (Nat.lt_trans (by rw [size₂] at hsz₃; exact hsz₃) this) e
          · cases e
  rcases hfound with hnf | ⟨c', hf⟩
  · refine wpAny_genexprCodeX hcode (hok.keeps keep₂) (htab.keeps keep₂) hnf fun c' h₃ tk₃ hx₃ hge hlt hcode₃ _ htab₃ _ => ?_
    exact rest h₃ tk₃ (.ref c') _ hx₃ (Nat.le_trans hge (Nat.le_of_lt hlt)) hcode₃ htab₃ (.inr ⟨hnf, c', rfl⟩)
  · unfold genexprCode
    exact codeAt_found hcode (hok.keeps keep₂) hf (rest s₂.heap s₂.toks (.ref c') ps (fun b o _ e => e) (Nat.le_refl _) (hok.keeps keep₂) (htab.keeps keep₂) (.inl rfl))
end
end Mine
end -- W3
section -- W4
/-! names and one-argument calls, in any environment of a def; len(a) + len(b) -/
set_option maxRecDepth 100000
namespace Mine
open PySem PySem.W PySem.Calls PyProof.Rows Builtin
set_option maxHeartbeats 400000

section
variable {prog : Program} {w : World} {M : Model} {A : Around} {E : Value → Shared → Prop} {s : Shared} {env : Env} {m mg mb : Str → Option Value}

theorem ev_local {x : Str} {pos : Pos} {v : Value} {Q : Value → Shared → Prop} (hk : env.scope.kind = .function) (hl : env.kindOf x = some .local) (hn : s.heap.Ns env.locals m) (hv : m x = some v) (h : Q v s) (hd : (x == ("__debug__" : Str)) = false := by decide) :
    wpAny M A (eval (.Name x pos) env) Q E s := wpAny_Name (wpAny_loadName_local hk hl hn hv h) hd
theorem ev_bi {x : Str} {pos : Pos} {v : Value} {Q : Value → Shared → Prop} (hk : env.scope.kind = .function) (hx : env.kindOf x = some .globalImplicit) (hg : s.heap.Ns env.globals mg) (hmiss : mg x = none) (hb : s.heap.Ns env.builtins mb) (hv : mb x = some v) (h : Q v s) (hd : (x == ("__debug__" : Str)) = false := by decide) :
    wpAny M A (eval (.Name x pos) env) Q E s := Name_function_global hk hx (loadGlobal_builtin hg hmiss hb hv h) hd
theorem ev_glob {x : Str} {pos : Pos} {v : Value} {Q : Value → Shared → Prop} (hk : env.scope.kind = .function) (hx : env.kindOf x = some .globalImplicit) (hg : s.heap.Ns env.globals mg) (hv : mg x = some v) (h : Q v s) (hd : (x == ("__debug__" : Str)) = false := by decide) :
    wpAny M A (eval (.Name x pos) env) Q E s := Name_function_global hk hx (loadGlobal_global hg hv h) hd

/-- len(x), x a local text -/
theorem ev_len_str {x f : Str} {t : Tok} {p1 p2 p3 : Pos} {Q : Value → Shared → Prop} (hk : env.scope.kind = .function) (hx : env.kindOf x = some .local) (hxd : (x == ("__debug__" : Str)) = false) (hlen : env.kindOf "len" = some .globalImplicit) (hn : s.heap.Ns env.locals m) (hv : m x = some (.str f t))
    (hg : s.heap.Ns env.globals mg) (hmiss : mg "len" = none) (hb : s.heap.Ns env.builtins mb) (hbl : mb "len" = some (.builtin "len")) (hf : (f.length : Int) < 2 ^ 63)
    (h : ∀ tk, Q (.int f.length tk) { s with toks := tk + 1 }) : wpAny (model prog w) A (eval (.Call (.Name "len" p1) [.Name x p2] [] p3) env) Q E s := by
  refine Call_ (ev_bi hk hlen hg hmiss hb hbl ?_)
  refine PyProof.Rows.callWith_builtin1 (spliced_more (ev_local hk hx hn hv ?_ hxd))
  refine spliced_none ?_
  exact len_str (by omega) (h _)

theorem ev_len_len {xa xb f p : Str} {t1 t2 : Tok} {p1 p2 p3 p4 p5 p6 p7 : Pos} {Q : Value → Shared → Prop} (hk : env.scope.kind = .function) (hxa : env.kindOf xa = some .local) (hxb : env.kindOf xb = some .local) (hda : (xa == ("__debug__" : Str)) = false) (hdb : (xb == ("__debug__" : Str)) = false)
    (hlen : env.kindOf "len" = some .globalImplicit) (hn : s.heap.Ns env.locals m) (hva : m xa = some (.str f t1)) (hvb : m xb = some (.str p t2))
    (hg : s.heap.Ns env.globals mg) (hmiss : mg "len" = none) (hb : s.heap.Ns env.builtins mb) (hbl : mb "len" = some (.builtin "len")) (hf : (f.length : Int) < 2 ^ 63) (hp : (p.length : Int) < 2 ^ 63)
    (h : ∀ tk tk', Q (.int ((f.length : Int) + p.length) tk) { s with toks := tk' }) :
    wpAny (model prog w) A (eval (.BinOp (.Call (.Name "len" p1) [.Name xa p2] [] p3) .Add (.Call (.Name "len" p4) [.Name xb p5] [] p6) p7) env) Q E s := by
  refine wpAny_BinOp (ev_len_str hk hxa hda hlen hn hva hg hmiss hb hbl hf fun tk => ?_)
  refine ev_len_str (s := { s with toks := tk + 1 }) hk hxb hdb hlen hn hvb hg hmiss hb hbl hp fun tk' => ?_
  exact PyProof.Rows.add_int (h _ _)
end
end Mine
end -- W4
section -- W5
/-! the world below every call; code tables; len of an accumulator -/
set_option maxRecDepth 100000
namespace Mine
open PySem PySem.W PySem.Calls PyProof.Rows Builtin
set_option maxHeartbeats 400000

noncomputable abbrev KK (w : World) : Frag := hdk.heap_1 w.params
noncomputable abbrev PW : Program := PySem.Challenge.pw_ik0039_01

/-- what stands in the heap below every call -/
structure WF (w : World) (b : Heap) (mg mb : Str → Option Value) (bm : Addr) (ob : Obj) : Prop where
  k : (KK w).In b
  lim : b.NoLimit
  mod : BMod b mainGlobals mg bm ob
  bi : b.Ns builtinsNs mb
  boot : ∀ x : Str, x ≠ "__name__" → mb x = bootBuiltins x

noncomputable def Ext (b h : Heap) : Prop := ∀ a o, b.get? a = some o → h.get? a = some o
/-- all stands but what S names -/
noncomputable def KB (S : List Addr) (h h' : Heap) : Prop := ∀ a o, a ∉ S → h.get? a = some o → h'.get? a = some o
theorem KB.refl {S h} : KB S h h := fun _ _ _ e => e
theorem KB.trans {S h h' h''} (x : KB S h h') (y : KB S h' h'') : KB S h h'' := fun a o ha e => y a o ha (x a o ha e)
theorem KB.mono {S S' h h'} (x : KB S h h') (hs : ∀ a ∈ S, a ∈ S') : KB S' h h' := fun a o ha e => x a o (fun hm => ha (hs a hm)) e
theorem KB.ext {S b h h'} (x : KB S h h') (hb : Ext b h) (hS : ∀ a ∈ S, b.get? a = none) : Ext b h' := fun a o e => x a o (fun hm => by rw [hS a hm] at e; cases e) (hb a o e)

theorem mg_none {K : Frag} {h : Heap} {mg : Str → Option Value} {n : Str} (X : K.In h) (G : h.Ns mainGlobals mg) (e : nsIn K mainGlobals n = some none) : mg n = none := by
  obtain ⟨o, es, ep, ho, hd, _, hf⟩ := G
  unfold nsIn at e
  split at e
  · rename_i c d es' n' sl q
    have := X _ _ q
    rw [ho] at this
    cases this
    cases hd
    split at e
    · cases e
    · rename_i en
      rw [← hf]
      unfold nsFind findBy
      rw [← Array.find?_toList, en]
      rfl
  · cases e

/-- a code's table of inner codes: each entry is an object -/
inductive TR : List Value → Prop
  | nil : TR []
  | cons {i j : Int} {t u : Tok} {a : Addr} {rest : List Value} : TR rest → TR (.int i t :: .int j u :: .ref a :: rest)
theorem TR.find {l : List Value} (h : TR l) (pos : Pos) : codeAmong pos l = none ∨ ∃ c', codeAmong pos l = some (.ref c') := by
  induction h with
  | nil => exact .inl rfl
  | cons _ ih =>
    simp only [codeAmong]
    split
    · exact .inr ⟨_, rfl⟩
    · exact ih
theorem TR.snoc {l : List Value} (h : TR l) (a b : Int) (c : Addr) : TR (l ++ [rawInt a, rawInt b, .ref c]) := by
  induction h with
  | nil => exact .cons .nil
  | cons _ ih => exact .cons ih
noncomputable def TabOK (h : Heap) (c P : Addr) : Prop := ∃ ps, h.IsCode c P ps ∧ h.TableAt c P ps ∧ TR ps.toList
theorem TabOK.keeps {h h' : Heap} {c P : Addr} (x : TabOK h c P) (hk : ∀ b o, h.get? b = some o → h'.get? b = some o) : TabOK h' c P :=
  let ⟨ps, a, b, d⟩ := x; ⟨ps, a.keeps hk, b.keeps hk, d⟩
end Mine
end -- W5
section -- W6
/-! the state below every call (St), what a call leaves (Nx), entering a def -/
set_option maxRecDepth 100000
namespace Mine
open PySem PySem.W PySem.Calls PyProof.Rows Builtin
set_option maxHeartbeats 400000

noncomputable def tabs : List Addr := [140, 147, 184, 210, 229]
structure St0 (b : Heap) (s : Shared) : Prop where
  ext : Ext b s.heap
  tab : ∀ P ∈ tabs, ∃ ps, s.heap.get? P = some (tabObj ps) ∧ TR ps.toList
  bare : AllBare s.gens
structure Nx0 (b : Heap) (X : List Addr) (s s' : Shared) : Prop where
  s0 : St0 b s'
  kp : ∀ a o, a ∉ tabs → a ∉ X → s.heap.get? a = some o → s'.heap.get? a = some o
  sz : s.heap.objs.size ≤ s'.heap.objs.size
  dr : s'.drawn = s.drawn
  os : s'.os = s.os

theorem Nx0.refl {b s X} (st : St0 b s) : Nx0 b X s s := ⟨st, fun _ _ _ _ e => e, Nat.le_refl _, rfl, rfl⟩
theorem Nx0.trans {b s s' s'' X Y Z} (x : Nx0 b X s s') (y : Nx0 b Y s' s'') (hX : ∀ a ∈ X, a ∈ Z ∨ s.heap.objs.size ≤ a) (hY : ∀ a ∈ Y, a ∈ Z ∨ s.heap.objs.size ≤ a) : Nx0 b Z s s'' :=
  ⟨y.s0, fun a o ht hz e => y.kp a o ht (fun h => (hY a h).elim hz fun h => absurd (Heap.lt_size e) (Nat.not_lt.mpr h)) (x.kp a o ht (fun h => (hX a h).elim hz fun h => absurd (Heap.lt_size e) (Nat.not_lt.mpr h)) e),
    Nat.le_trans x.sz y.sz, y.dr.trans x.dr, y.os.trans x.os⟩
theorem Nx0.mono {b s s' X Z} (x : Nx0 b X s s') (hX : ∀ a ∈ X, a ∈ Z ∨ s.heap.objs.size ≤ a) : Nx0 b Z s s' := Nx0.trans (Y := []) x (Nx0.refl x.s0) hX (fun _ h => nomatch h)
theorem Nx0.tr {b X s s' s''} (x : Nx0 b X s s') (y : Nx0 b X s' s'') : Nx0 b X s s'' := x.trans y (fun _ h => .inl h) (fun _ h => .inl h)
theorem Nx0.wk {b X s s'} (x : Nx0 b [] s s') : Nx0 b X s s' := x.mono (fun _ h => nomatch h)
theorem Nx0.lt0 {b X s s' s''} (x : Nx0 b [] s s') (y : Nx0 b X s' s'') : Nx0 b X s s'' := x.wk.tr y
theorem Nx0.rt0 {b X s s' s''} (x : Nx0 b X s s') (y : Nx0 b [] s' s'') : Nx0 b X s s'' := x.tr y.wk
theorem Nx0.all {b s s'} (st : St0 b s) (hk : ∀ a o, s.heap.get? a = some o → s'.heap.get? a = some o) (hg : s'.gens = s.gens) (hd : s'.drawn = s.drawn) (ho : s'.os = s.os) (hs : s.heap.objs.size ≤ s'.heap.objs.size) : Nx0 b [] s s' :=
  ⟨⟨fun a o e => hk a o (st.ext a o e), fun P hP => let ⟨ps, e, r⟩ := st.tab P hP; ⟨ps, hk _ _ e, r⟩, hg ▸ st.bare⟩, fun a o _ _ e => hk a o e, hs, hd, ho⟩
theorem St0.toks {b s} (st : St0 b s) {k : Nat} : St0 b { s with toks := k } := ⟨st.ext, st.tab, st.bare⟩
theorem Nx0.toks {b X s s'} (x : Nx0 b X s s') {k : Nat} : Nx0 b X s { s' with toks := k } := ⟨x.s0.toks, x.kp, x.sz, x.dr, x.os⟩

/-- an object that may be a code or a table of codes -/
noncomputable def codey (o : Obj) : Bool := match o.data with
  | .fields vs => (match vs[1]? with | some (Value.str _ _) => true | _ => o.cls == .none)
  | _ => false
noncomputable def NC (h : Heap) (a : Addr) : Prop := ∀ o, h.get? a = some o → codey o = false
/-- a table's entries: codes of the names that belong to their places -/
inductive TQ (h : Heap) (qf : List ((Int × Int) × Str)) : List Value → Prop
  | nil : TQ h qf []
  | cons {l c : Int} {t u : Tok} {a : Addr} {q : Str} {rest : List Value} : qf.lookup (l, c) = some q → 232 < a → h.CodeRec (.ref a) q → TQ h qf rest → TQ h qf (.int l t :: .int c u :: .ref a :: rest)
theorem TQ.mono {h h' : Heap} {qf} (f : ∀ a q, 232 < a → h.CodeRec (.ref a) q → h'.CodeRec (.ref a) q) {l : List Value} (x : TQ h qf l) : TQ h' qf l := by
  induction x with
  | nil => exact .nil
  | cons e g r _ ih => exact .cons e g (f _ _ g r) ih
noncomputable def qM (n : String) : Str := Str.ofString ("cmp_to_key.<locals>.K." ++ n)
noncomputable def qK : List ((Int × Int) × Str) := [((116, 8), qM "__init__"), ((119, 8), qM "__lt__"), ((122, 8), qM "__gt__"), ((125, 8), qM "__eq__"), ((128, 8), qM "__le__"), ((131, 8), qM "__ge__")]
noncomputable def q210 : List ((Int × Int) × Str) := [((163, 21), Str.ofString "_law_lay.<locals>.<lambda>")]
noncomputable def q229 : List ((Int × Int) × Str) := [((188, 19), Str.ofString "law.<locals>.<lambda>"), ((189, 18), Str.ofString "law.<locals>.<lambda>")]
/-- the table of cmp_to_key's code: empty, or the code of K with a full table -/
noncomputable def KTab (h : Heap) (kc P : Addr) (ps : Array Value) : Prop := 232 < kc ∧ 232 < P ∧ CodeHd h kc P ∧ (∃ q, h.CodeRec (.ref kc) q) ∧ h.get? P = some (tabObj ps) ∧ TQ h qK ps.toList
noncomputable def Full (ps : Array Value) : Prop := ∀ (pos : Pos), (qK.lookup ((pos.line : Int), (pos.col : Int))).isSome = true → (codeAmong pos ps.toList).isSome = true
structure CodOK (h : Heap) : Prop where
  c210 : ∃ ps, h.get? 210 = some (tabObj ps) ∧ TQ h q210 ps.toList
  c229 : ∃ ps, h.get? 229 = some (tabObj ps) ∧ TQ h q229 ps.toList
  c184 : h.get? 184 = some (tabObj #[]) ∨ ∃ kc P ps, h.get? 184 = some (tabObj #[rawInt 112, rawInt 4, .ref kc]) ∧ KTab h kc P ps ∧ Full ps
theorem rec_codey {h : Heap} {a : Addr} {q : Str} (x : h.CodeRec (.ref a) q) : ∃ o, h.get? a = some o ∧ codey o = true := by
  obtain ⟨c, o, vs, t, e, g, d, r⟩ := x
  cases e
  exact ⟨o, g, by unfold codey; rw [d]; dsimp only; rw [r]⟩
theorem rec_mv {h h' : Heap} (hk : ∀ a o, codey o = true → h.get? a = some o → h'.get? a = some o) {a : Addr} {q : Str} (x : h.CodeRec (.ref a) q) : h'.CodeRec (.ref a) q := by
  obtain ⟨o', g', hc⟩ := rec_codey x
  obtain ⟨c, o, vs, t, e, g, d, r⟩ := x
  cases e
  rw [g] at g'; cases g'
  exact ⟨_, _, vs, t, rfl, hk _ _ hc g, d, r⟩
theorem tab_codey (ps : Array Value) : codey (tabObj ps) = true := by
  unfold codey tabObj
  dsimp only
  split
  · rfl
  · rfl
theorem TQ.mv {h h' : Heap} (hk : ∀ a o, codey o = true → h.get? a = some o → h'.get? a = some o) {qf} {l : List Value} (x : TQ h qf l) : TQ h' qf l := x.mono fun _ _ _ r => rec_mv hk r
theorem KTab.mv {h h' : Heap} (hk : ∀ a o, codey o = true → h.get? a = some o → h'.get? a = some o) {kc P ps} (x : KTab h kc P ps) : KTab h' kc P ps := by
  obtain ⟨g1, g2, hd, ⟨q, r⟩, t, tq⟩ := x
  refine ⟨g1, g2, ?_, ⟨q, rec_mv hk r⟩, hk _ _ (tab_codey ps) t, tq.mv hk⟩
  obtain ⟨o', g', hc⟩ := rec_codey r
  obtain ⟨o, vs, file, tf, flags, tg, inF, text, tt, e, rr⟩ := hd
  rw [e] at g'; cases g'
  exact ⟨_, vs, file, tf, flags, tg, inF, text, tt, hk _ _ hc e, rr⟩
theorem CodOK.mv {h h' : Heap} (x : CodOK h) (hk : ∀ a o, codey o = true → h.get? a = some o → h'.get? a = some o) : CodOK h' where
  c210 := let ⟨ps, e, t⟩ := x.c210; ⟨ps, hk _ _ (tab_codey ps) e, t.mv hk⟩
  c229 := let ⟨ps, e, t⟩ := x.c229; ⟨ps, hk _ _ (tab_codey ps) e, t.mv hk⟩
  c184 := by
    rcases x.c184 with e | ⟨kc, P, ps, e, k, f⟩
    · exact .inl (hk _ _ (tab_codey _) e)
    · exact .inr ⟨kc, P, ps, hk _ _ (tab_codey _) e, k.mv hk, f⟩
theorem CodOK.keeps {h h' : Heap} (x : CodOK h) (hk : ∀ a o, h.get? a = some o → h'.get? a = some o) : CodOK h' := x.mv fun a o _ e => hk a o e
theorem CodOK.but {h h' : Heap} {X : List Addr} (x : CodOK h) (hk : ∀ a o, a ∉ X → h.get? a = some o → h'.get? a = some o) (hn : ∀ a ∈ X, NC h a) : CodOK h' := x.mv fun a o hc e =>
  hk a o (fun q => by have := hn a q o e; rw [hc] at this; cases this) e

theorem TQ.aside {h h' : Heap} {P : Addr} (hP : P ≤ 232) (hk : ∀ a o, a ≠ P → h.get? a = some o → h'.get? a = some o) {qf} {l : List Value} (x : TQ h qf l) : TQ h' qf l := x.mono fun a q g r => by
      obtain ⟨c, o, vs, t, e', g', d, r⟩ := r
      cases e'
      exact ⟨_, o, vs, t, rfl, hk _ _ (fun q => absurd g (Nat.not_lt.mpr (q ▸ hP))) g', d, r⟩
/-- another table grows -/
theorem CodOK.aside {h h' : Heap} {P : Addr} (x : CodOK h) (hP : P ≤ 232) (hP2 : P ≠ 184 ∧ P ≠ 210 ∧ P ≠ 229) (hk : ∀ a o, a ≠ P → h.get? a = some o → h'.get? a = some o) : CodOK h' where
  c210 := let ⟨ps, e, t⟩ := x.c210; ⟨ps, hk _ _ hP2.2.1.symm e, t.aside hP hk⟩
  c229 := let ⟨ps, e, t⟩ := x.c229; ⟨ps, hk _ _ hP2.2.2.symm e, t.aside hP hk⟩
  c184 := by
    have gt : ∀ a : Addr, 232 < a → a ≠ P := fun a g q => absurd g (Nat.not_lt.mpr (q ▸ hP))
    rcases x.c184 with e | ⟨kc, P', ps, e, ⟨g1, g2, hd, ⟨q, r⟩, t, tq⟩, f⟩
    · exact .inl (hk _ _ hP2.1.symm e)
    · refine .inr ⟨kc, P', ps, hk _ _ hP2.1.symm e, ⟨g1, g2, ?_, ⟨q, ?_⟩, hk _ _ (gt _ g2) t, tq.aside hP hk⟩, f⟩
      · obtain ⟨o, vs, file, tf, flags, tg, inF, text, tt, e, rr⟩ := hd
        exact ⟨o, vs, file, tf, flags, tg, inF, text, tt, hk _ _ (gt _ g1) e, rr⟩
      · obtain ⟨c, o, vs, t, e', g', d, r⟩ := r
        cases e'
        exact ⟨_, o, vs, t, rfl, hk _ _ (gt _ g1) g', d, r⟩

structure St (b : Heap) (s : Shared) : Prop extends St0 b s where
  cod : CodOK s.heap
structure Nx (b : Heap) (X : List Addr) (s s' : Shared) : Prop extends Nx0 b X s s' where
  cod : CodOK s'.heap
theorem Nx.st {b X s s'} (x : Nx b X s s') : St b s' := ⟨x.toNx0.s0, x.cod⟩
theorem Nx.refl {b s X} (st : St b s) : Nx b X s s := ⟨Nx0.refl st.toSt0, st.cod⟩
theorem Nx.trans {b s s' s'' X Y Z} (x : Nx b X s s') (y : Nx b Y s' s'') (hX : ∀ a ∈ X, a ∈ Z ∨ s.heap.objs.size ≤ a) (hY : ∀ a ∈ Y, a ∈ Z ∨ s.heap.objs.size ≤ a) : Nx b Z s s'' := ⟨x.toNx0.trans y.toNx0 hX hY, y.cod⟩
theorem Nx.mono {b s s' X Z} (x : Nx b X s s') (hX : ∀ a ∈ X, a ∈ Z ∨ s.heap.objs.size ≤ a) : Nx b Z s s' := Nx.trans (Y := []) x (Nx.refl x.st) hX (fun _ h => nomatch h)
theorem Nx.tr {b X s s' s''} (x : Nx b X s s') (y : Nx b X s' s'') : Nx b X s s'' := x.trans y (fun _ h => .inl h) (fun _ h => .inl h)
theorem Nx.wk {b X s s'} (x : Nx b [] s s') : Nx b X s s' := x.mono (fun _ h => nomatch h)
theorem Nx.lt0 {b X s s' s''} (x : Nx b [] s s') (y : Nx b X s' s'') : Nx b X s s'' := x.wk.tr y
theorem Nx.rt0 {b X s s' s''} (x : Nx b X s s') (y : Nx b [] s' s'') : Nx b X s s'' := x.tr y.wk
/-- all stands -/
theorem Nx.all {b s s'} (st : St b s) (hk : ∀ a o, s.heap.get? a = some o → s'.heap.get? a = some o) (hg : s'.gens = s.gens) (hd : s'.drawn = s.drawn) (ho : s'.os = s.os) (hs : s.heap.objs.size ≤ s'.heap.objs.size) : Nx b [] s s' :=
  ⟨Nx0.all st.toSt0 hk hg hd ho hs, st.cod.keeps hk⟩
theorem St.toks {b s} (st : St b s) {k : Nat} : St b { s with toks := k } := ⟨st.toSt0.toks, st.cod⟩
theorem Nx.toks {b X s s'} (x : Nx b X s s') {k : Nat} : Nx b X s { s' with toks := k } := ⟨x.toNx0.toks, x.cod⟩

structure WW (w : World) (b : Heap) (mg mb : Str → Option Value) (bm : Addr) (ob : Obj) : Prop extends WF w b mg mb bm ob where
  notab : ∀ P ∈ tabs, b.get? P = none

section
variable {w : World} {A : Around} {E : Value → Shared → Prop} {s : Shared} {b : Heap} {mg mb : Str → Option Value} {bm : Addr} {ob : Obj}

theorem St0.k (st : St0 b s) (W : WW w b mg mb bm ob) : (KK w).In s.heap := fun a o e => st.ext a o (W.k a o e)
theorem St0.lim (st : St0 b s) (W : WW w b mg mb bm ob) : s.heap.NoLimit := W.lim.keeps st.ext
theorem St0.mod (st : St0 b s) (W : WW w b mg mb bm ob) : BMod s.heap mainGlobals mg bm ob := W.mod.keeps st.ext
theorem St0.bi (st : St0 b s) (W : WW w b mg mb bm ob) : s.heap.Ns builtinsNs mb := W.bi.keeps st.ext
theorem St0.lt (st : St0 b s) (W : WW w b mg mb bm ob) : 232 < s.heap.objs.size := Heap.lt_size (st.k W 232 _ rfl)

theorem enter {f : Addr} {fd : FuncData} {body : List Stmt} {args : List Value} {kw : List (Str × Value)} {binds : List (Str × Value)} {cls : Value} {dd : Option Addr} {sl : Array (Option Value)} {Q : Value → Shared → Prop}
    (W : WW w b mg mb bm ob) (st : St b s) (hD : A.depth < recursionLimit) (hK : (KK w).lookup f = some ⟨cls, dd, .func fd, sl⟩) (hbody : fd.body = .stmts body) (hcd : codeIn (KK w) fd.code fd.qualname = true)
    (hbind : BindsTo s fd ⟨args, kw⟩ binds) (hcell : ∀ x ∈ fd.scope.names, x.2 ≠ .cell) (hloc : ∀ x ∈ binds, fd.scope.names.lookup x.1 = some .local)
    (h : ∀ A₁ s₁ E' L, A₁.handled = A.handled → A₁.depth = A.depth + 1 → A₁.units = A.units + 3 → L = s.heap.objs.size → Nx b [] s s₁ → L < s₁.heap.objs.size → s₁.heap.Ns L (fun x => binds.reverse.lookup x) →
      wpAny (model PW w) A₁ (execs body (callEnv fd L f)) (fun fl s' => Q (match fl with | .ret v => v | _ => .none) s') E' s₁)
    (hco : fd.scope.isCoroutine = false := by rfl) (hgen : fd.scope.isGenerator = false := by rfl) (hk : fd.scope.kind = .function := by rfl) :
    wpAny (model PW w) A (call (.ref f) args kw) Q E s := by
  refine wpAny_call (codeAny_call_def (fd := fd) (body := body) hD (st.k W _ _ hK) rfl (st.lim W) (codeRec_of (st.k W) hcd) hbody hbind hcell hloc (fun h₀ hns hk₀ => ?_) hco hgen hk)
  obtain ⟨o, es, ep, ho, _⟩ := id hns
  exact h _ _ _ _ rfl rfl rfl rfl (Nx.all st hk₀ rfl rfl rfl (Nat.le_of_lt (Heap.lt_size ho))) (Heap.lt_size ho) hns
end
end Mine
end -- W6
section -- W7
/-! the accumulator: facts and its length -/
set_option maxRecDepth 100000
namespace Mine
open PySem PySem.W PySem.Calls PyProof.Rows Builtin
set_option maxHeartbeats 400000

noncomputable def TupAt (h : Heap) (T : Addr) (p : Str × Str) : Prop := ∃ t1 t2, h.IsTuple T #[.str p.1 t1, .str p.2 t2]
structure Acc (w : World) (b : Heap) (h : Heap) (x dx : Addr) (n : Int) (Ts : List Addr) (ps : List (Str × Str)) : Prop where
  at_ : ∃ k, h.get? x = some ⟨.ref 178, some dx, .seq (Ts.map Value.ref).toArray k, #[]⟩
  di : ∃ t t' k, h.get? dx = some (dictOf [⟨PyData.keyHash w.params (Str.ofString "_initial_size"), .str (Str.ofString "_initial_size") t', .int n t⟩] k)
  len : Ts.length = ps.length
  tup : ∀ (j : Nat) (T : Addr) (p : Str × Str), Ts[j]? = some T → ps[j]? = some p → TupAt h T p
  gx : 232 < x
  gd : 232 < dx
  gT : ∀ T ∈ Ts, 232 < T
  fx : b.get? x = none
  fd : b.get? dx = none

theorem tab_le {a : Addr} (h : a ∈ tabs) : a ≤ 232 := by simp only [tabs, List.mem_cons, List.not_mem_nil, or_false] at h; rcases h with rfl | rfl | rfl | rfl | rfl <;> decide
theorem notab_of {a : Addr} (h : 232 < a) : a ∉ tabs := fun q => absurd (tab_le q) (Nat.not_le.mpr h)
theorem ns_nx {b X} {s s' : Shared} {L : Addr} {m : Str → Option Value} (hns : s.heap.Ns L m) (N : Nx b X s s') (hL : 232 < L) (hX : L ∉ X := by exact List.not_mem_nil) : s'.heap.Ns L m :=
  let ⟨o, es, ep, e, r⟩ := hns; ⟨o, es, ep, N.kp _ _ (notab_of hL) hX e, r⟩
theorem Acc.nx {w b X} {s s' : Shared} {x dx n Ts ps} (a : Acc w b s.heap x dx n Ts ps) (N : Nx b X s s') (hx : x ∉ X) (hd : dx ∉ X) (hT : ∀ T ∈ Ts, T ∉ X) : Acc w b s'.heap x dx n Ts ps where
  at_ := let ⟨k, e⟩ := a.at_; ⟨k, N.kp _ _ (notab_of a.gx) hx e⟩
  di := let ⟨t, t', k, e⟩ := a.di; ⟨t, t', k, N.kp _ _ (notab_of a.gd) hd e⟩
  len := a.len
  tup := fun j T p e1 e2 => let ⟨t1, t2, o, e, r⟩ := a.tup j T p e1 e2; ⟨t1, t2, o, N.kp _ _ (notab_of (a.gT T (List.mem_of_getElem? e1))) (hT T (List.mem_of_getElem? e1)) e, r⟩
  gx := a.gx
  gd := a.gd
  gT := a.gT
  fx := a.fx
  fd := a.fd
theorem Acc.nx0 {w b} {s s' : Shared} {x dx n Ts ps} (a : Acc w b s.heap x dx n Ts ps) (N : Nx b [] s s') : Acc w b s'.heap x dx n Ts ps := a.nx N (by simp) (by simp) (by simp)
theorem Acc.ltx {w b h x dx n Ts ps} (a : Acc w b h x dx n Ts ps) : x < h.objs.size := let ⟨k, e⟩ := a.at_; Heap.lt_size e
theorem Acc.ltd {w b h x dx n Ts ps} (a : Acc w b h x dx n Ts ps) : dx < h.objs.size := let ⟨t, t', k, e⟩ := a.di; Heap.lt_size e
theorem Acc.ltT {w b h x dx n Ts ps} (a : Acc w b h x dx n Ts ps) {T} (hT : T ∈ Ts) : T < h.objs.size := by
  obtain ⟨j, hj⟩ := List.getElem?_of_mem hT
  have hj' : j < ps.length := by rw [← a.len]; exact (List.getElem?_eq_some_iff.mp hj).1
  obtain ⟨t1, t2, o, e, r⟩ := a.tup j T ps[j] hj (List.getElem?_eq_getElem hj')
  exact Heap.lt_size e
theorem Acc.inst {w b h x dx n Ts ps} (a : Acc w b h x dx n Ts ps) : ∃ k t t' k', InstAt h x ⟨.ref 178, some dx, .seq (Ts.map Value.ref).toArray k, #[]⟩ 178 (some (dictOf [⟨PyData.keyHash w.params (Str.ofString "_initial_size"), .str (Str.ofString "_initial_size") t', .int n t⟩] k')) :=
  let ⟨k, e⟩ := a.at_; let ⟨t, t', k', e'⟩ := a.di; ⟨k, t, t', k', ⟨e, rfl, rfl, e'⟩⟩

theorem Nx0.upd {b : Heap} {s : Shared} {x : Addr} {f : Obj → Obj} (st : St0 b s) (hx : 232 < x) (fx : b.get? x = none) : Nx0 b [x] s { s with heap := s.heap.update x f } := by
  have ne : ∀ a o, a ≠ x → s.heap.get? a = some o → (s.heap.update x f).get? a = some o := fun a o h e => (Heap.get?_update_ne _ _ _ _ h).trans e
  refine ⟨⟨fun a o e => ne a o (fun q => by rw [q, fx] at e; cases e) (st.ext a o e), fun P hP => ?_, st.bare⟩, fun a o _ ha e => ne a o (fun q => ha (q ▸ List.mem_singleton_self _)) e, ?_, rfl, rfl⟩
  · obtain ⟨ps, e, r⟩ := st.tab P hP
    exact ⟨ps, ne _ _ (fun q => notab_of hx (q ▸ hP)) e, r⟩
  · show _ ≤ (s.heap.update x f).objs.size
    simp
theorem Nx.upd {b : Heap} {s : Shared} {x : Addr} {f : Obj → Obj} (st : St b s) (hx : 232 < x) (fx : b.get? x = none) (hn : NC s.heap x) : Nx b [x] s { s with heap := s.heap.update x f } :=
  ⟨Nx0.upd st.toSt0 hx fx, st.cod.but (X := [x]) (fun a o h e => (Heap.get?_update_ne _ _ _ _ (fun q => h (List.mem_singleton.mpr q))).trans e) (fun a ha => by rw [List.mem_singleton.mp ha]; exact hn)⟩
theorem NC.seq {h : Heap} {a : Addr} {o : Obj} {its n} (e : h.get? a = some o) (hd : o.data = .seq its n) : NC h a := fun o' e' => by
  rw [e] at e'; cases e'
  unfold codey; rw [hd]
theorem NC.dict {h : Heap} {a : Addr} {o : Obj} {es n} (e : h.get? a = some o) (hd : o.data = .dict es n) : NC h a := fun o' e' => by
  rw [e] at e'; cases e'
  unfold codey; rw [hd]
theorem NC.cell {h : Heap} {a : Addr} {o : Obj} {v} (e : h.get? a = some o) (hd : o.data = .cell v) : NC h a := fun o' e' => by
  rw [e] at e'; cases e'
  unfold codey; rw [hd]
theorem NC.none {h : Heap} {a : Addr} (e : h.get? a = .none) : NC h a := fun o' e' => by rw [e] at e'; cases e'
theorem NC.ns {h : Heap} {a : Addr} {m} (x : h.Ns a m) : NC h a := let ⟨_, _, _, e, hd, _⟩ := x; NC.dict e hd
theorem Acc.nc {w b h x dx n Ts ps} (a : Acc w b h x dx n Ts ps) : NC h x := let ⟨_, e⟩ := a.at_; NC.seq e rfl
theorem Acc.ncd {w b h x dx n Ts ps} (a : Acc w b h x dx n Ts ps) : NC h dx := let ⟨_, _, _, e⟩ := a.di; NC.dict e rfl
theorem NC.isCell {h : Heap} {a : Addr} {v} (x : h.IsCell a v) : NC h a := let ⟨_, e, hd⟩ := x; NC.cell e hd

theorem Nx0.same {b : Heap} {s : Shared} {l : Addr} {h' : Heap} {tk : Nat} (st : St0 b s) (hs : Heap.SameBut l s.heap h') (gl : 232 < l) (fl : b.get? l = none) : Nx0 b [l] s { s with heap := h', toks := tk } := by
  have ne : ∀ a o, a ≠ l → s.heap.get? a = some o → h'.get? a = some o := fun a o ha e => hs.extBut a o ha e
  refine ⟨⟨fun a o e => ne a o (fun q => by rw [q, fl] at e; cases e) (st.ext a o e), fun P hP => ?_, st.bare⟩, fun a o _ ha e => ne a o (fun q => ha (q ▸ List.mem_singleton_self _)) e, Nat.le_of_eq hs.1.symm, rfl, rfl⟩
  obtain ⟨ps, e, r⟩ := st.tab P hP
  exact ⟨ps, ne _ _ (fun q => notab_of gl (q ▸ hP)) e, r⟩
theorem Nx.same {b : Heap} {s : Shared} {l : Addr} {h' : Heap} {tk : Nat} (st : St b s) (hs : Heap.SameBut l s.heap h') (gl : 232 < l) (fl : b.get? l = none) (hn : NC s.heap l) : Nx b [l] s { s with heap := h', toks := tk } :=
  ⟨Nx0.same st.toSt0 hs gl fl, st.cod.but (X := [l]) (fun a o ha e => hs.extBut a o (fun q => ha (List.mem_singleton.mpr q)) e) (fun a ha => by rw [List.mem_singleton.mp ha]; exact hn)⟩

noncomputable def plen : List (Str × Str) → Nat
  | [] => 0
  | p :: r => p.1.length + p.2.length + plen r
noncomputable def Small (n : Int) (ps : List (Str × Str)) : Prop := 0 ≤ n ∧ n ≤ 1000 ∧ ps.length ≤ 1000 ∧ ∀ p ∈ ps, p.1.length ≤ 1000 ∧ p.2.length ≤ 1000

section
variable {w : World} {A : Around} {E : Value → Shared → Prop} {s : Shared} {b : Heap} {mg mb : Str → Option Value} {bm : Addr} {ob : Obj}

theorem codeHd_ext {c P : Addr} (W : WW w b mg mb bm ob) (st : St0 b s) (e : codeHdIn (KK w) c P = true) : CodeHd s.heap c P := codeHd_of_K (st.k W) e
theorem St0.table {c P : Addr} (st : St0 b s) (W : WW w b mg mb bm ob) (e : codeHdIn (KK w) c P = true) (hP : P ∈ tabs) : TabOK s.heap c P := by
  obtain ⟨ps, h1, h2⟩ := st.tab P hP
  have h3 : TriplesOk ps.toList := by
    have : ∀ l, TR l → TriplesOk l := fun l h => by
      induction h with
      | nil => trivial
      | cons _ ih => simp only [TriplesOk]; exact ih
    exact this _ h2
  exact ⟨ps, (codeHd_ext W st e).code h1 h3, (codeHd_ext W st e).tab h1, h2⟩

/-- the state behind a generator expression and its walk -/
theorem Nx.gen {s' : Shared} {h₅ : Heap} {gs : GenState} {tk : Nat} {P : Addr} {wr : List Addr} {c a : Addr} {ps ps' : Array Value} {pos : Pos} (W : WW w b mg mb bm ob) (st : St b s) (hP : P ∈ tabs) (hP2 : P ≠ 184 ∧ P ≠ 210 ∧ P ≠ 229) (hgb : gs.bare = true) (hk : ∀ b o, b ≠ P → s.heap.get? b = some o → h₅.get? b = some o)
    (ht : h₅.TableAt c P ps') (htr : TR ps.toList) (hps : ps' = ps ∨ (codeAmong pos ps.toList = none ∧ ∃ c', ps' = ps ++ #[rawInt pos.line, rawInt pos.col, .ref c'])) (hwr : ∀ b ∈ wr, s.heap.objs.size ≤ b) (ha : s.heap.objs.size ≤ a) (haw : a ∉ wr) (hat : ∃ o, h₅.get? a = some o)
    (hm : Moved wr (GenOnlyQ s.gens.size) { s with gens := s.gens.push gs, toks := tk, heap := h₅ } s') : Nx b [] s s' := by
  have hne : ∀ a o, b.get? a = some o → a ≠ P := fun a o e q => by rw [q, W.notab P hP] at e; cases e
  have hk' : ∀ a o, a ≠ P → s.heap.get? a = some o → s'.heap.get? a = some o := fun a o ha e => hm.heap a o (fun h => absurd (Heap.lt_size e) (Nat.not_lt.mpr (hwr a h))) (hk a o ha e)
  refine ⟨⟨⟨fun a o e => hk' a o (hne a o e) (st.ext a o e), fun P' hP' => ?_, ?_⟩, fun a o ha _ e => hk' a o (fun q => ha (q ▸ hP)) e, Nat.le_of_lt (Nat.lt_of_le_of_lt ha (let ⟨o, e⟩ := hat; Heap.lt_size (hm.heap a o haw e))), hm.drawn, hm.os⟩, st.cod.aside (tab_le hP) hP2 hk'⟩
  · by_cases e : P' = P
    · subst e
      refine ⟨ps', hm.heap P' _ (fun h => absurd (st.lt W) (Nat.not_lt.mpr (Nat.le_trans (hwr _ h) (tab_le hP')))) ht.2, ?_⟩
      rcases hps with rfl | ⟨_, c', rfl⟩
      · exact htr
      · rw [Array.toList_append]; exact htr.snoc _ _ _
    · obtain ⟨q, e1, e2⟩ := st.tab P' hP'
      exact ⟨q, hk' _ _ e e1, e2⟩
  · have hb1 : AllBare (s.gens.push gs) := st.bare.push hgb
    rcases hm.gens with h | ⟨⟨h1, h2⟩, h3⟩
    · rw [h]; exact hb1
    · intro y hy
      obtain ⟨i, hi⟩ := Array.getElem?_of_mem hy
      by_cases e : i = s.gens.size
      · subst e; exact h3 y hi
      · rw [h2 i e] at hi
        exact hb1 y (Array.mem_of_getElem? hi)
end
end Mine
end -- W7
section -- W8
/-! the accumulator's length -/
set_option maxRecDepth 100000
namespace Mine
open PySem PySem.W PySem.Calls PyProof.Rows Builtin
set_option maxHeartbeats 400000
section
variable {w : World} {A : Around} {E : Value → Shared → Prop} {s : Shared} {b : Heap} {mg mb : Str → Option Value} {bm : Addr} {ob : Obj} {env : Env}

theorem nm_bi {x : Str} {v : Value} {pos : Pos} {Q : Value → Shared → Prop} (W : WW w b mg mb bm ob) (st : St b s) (e2 : bootBuiltins x = some v) (h : Q v s) (e1 : nsIn (KK w) mainGlobals x = some none := by kernel_rfl) (hk : env.scope.kind = .function := by rfl) (hx : env.kindOf x = some .globalImplicit := by rfl)
    (hgl : env.globals = mainGlobals := by rfl) (hbl : env.builtins = builtinsNs := by rfl) (hn : x ≠ "__name__" := by decide) (hd : (x == ("__debug__" : Str)) = false := by decide) : wpAny (model PW w) A (eval (.Name x pos) env) Q E s :=
  ev_bi hk hx (hgl ▸ (st.mod W).ns) (mg_none (st.k W) (st.mod W).ns e1) (hbl ▸ st.bi W) ((W.boot _ hn).trans e2) h hd
theorem nm_loc {x : Str} {v : Value} {pos : Pos} {Q : Value → Shared → Prop} {m : Str → Option Value} (hn : s.heap.Ns env.locals m) (h : Q v s) (hv : m x = some v := by rfl) (hk : env.scope.kind = .function := by rfl) (hl : env.kindOf x = some .local := by rfl)
    (hd : (x == ("__debug__" : Str)) = false := by decide) : wpAny (model PW w) A (eval (.Name x pos) env) Q E s := ev_local hk hl hn hv h hd

theorem Acc.vals {b h : Heap} {x dx : Addr} {n : Int} {Ts : List Addr} {ps : List (Str × Str)} (a : Acc w b h x dx n Ts ps) : ∃ vals : Nat → Array Value, ∀ (j : Nat) (T : Addr) (p : Str × Str), Ts[j]? = some T → ps[j]? = some p → h.IsTuple T (vals j) ∧ ∃ t1 t2, vals j = #[.str p.1 t1, .str p.2 t2] := by
  have : ∀ j : Nat, ∃ v : Array Value, ∀ (T : Addr) (p : Str × Str), Ts[j]? = some T → ps[j]? = some p → h.IsTuple T v ∧ ∃ t1 t2, v = #[.str p.1 t1, .str p.2 t2] := fun j => by
    cases e1 : Ts[j]? with
    | none => exact ⟨#[], fun _ _ h => nomatch h⟩
    | some T => cases e2 : ps[j]? with
      | none => exact ⟨#[], fun _ _ _ h => nomatch h⟩
      | some p =>
        obtain ⟨t1, t2, e3⟩ := a.tup j T p e1 e2
        exact ⟨_, fun T' p' h1 h2 => by cases h1; cases h2; exact ⟨e3, t1, t2, rfl⟩⟩
  exact ⟨fun j => (this j).choose, fun j => (this j).choose_spec⟩

theorem gen_acc {x dx : Addr} {n : Int} {Ts : List Addr} {ps : List (Str × Str)} {c P : Addr} {elt iter : Expr} {xa xb : Str} {pa pb pt : Pos} {kt : Nat} {scope : Scope} {cl : List (Str × Addr)} {pos : Pos} {Q : Value → Shared → Prop} {Fv : Nat → Value → Prop}
    (W : WW w b mg mb bm ob) (st : St b s) (hA : A.handled = none) (hD : A.depth < recursionLimit) (a : Acc w b s.heap x dx n Ts ps) (hcd : codeHdIn (KK w) c P = true) (hP : P ∈ tabs) (hP2 : P ≠ 184 ∧ P ≠ 210 ∧ P ≠ 229)
    (hcode : env.code = .ref c) (hg : env.globals = mainGlobals)
    (hiter : ∀ R : Value → Shared → Prop, R (.ref x) s → wpAny (model PW w) A (eval iter env) R E s)
    (hclos : closureFor scope env = pure cl)
    (helt : ∀ (C : Addr) (code : Value) (A' : Around) E' k p t1 t2 (t : Shared) m₂, A'.handled = none → A'.depth ≤ A.depth + 1 → ps[k]? = some p → t.heap.Ns C m₂ → m₂ xa = some (.str p.1 t1) → m₂ xb = some (.str p.2 t2) → Ext b t.heap →
      wpAny (model PW w) A' (eval elt (genEnv scope cl C code builtinsNs env)) (fun y s₃ => Fv k y ∧ Keeps t s₃) E' t)
    (hQ : ∀ g s₂ fp wr St₀, (∀ s', Moved wr (GenOnlyQ s.gens.size) s₂ s' → Nx b [] s s') → WalksS PW w A.in4 g fp wr (GenOnlyQ s.gens.size) ps.length Fv St₀ → St₀ 0 s₂ → (∀ b ∈ fp, b < s₂.heap.objs.size) → (∀ i s', St₀ i s' → s'.TypeIs (.ref g) "generator") → g ∈ fp → Q (.ref g) s₂)
    (hco : scope.isCoroutine = false := by rfl) (hcell : ∀ y ∈ scope.names, y.2 ≠ .cell := by decide) (h0 : scope.names.lookup (".0" : Str) = some NameKind.local := by rfl)
    (hxa : scope.names.lookup xa = some .local := by rfl) (hxb : scope.names.lookup xb = some .local := by rfl) (hab : xa ≠ xb := by decide) (hkind : scope.kind = .function := by rfl) (hs : ∀ x, genFold iter env x = pure x := by exact fun _ => rfl) :
    wpAny (model PW w) A (eval (.GeneratorExp elt [⟨.Tuple [.Name xa pa, .Name xb pb] kt pt, iter, [], 0⟩] scope pos) env) Q E s := by
  obtain ⟨k, t, t', k', I⟩ := a.inst
  obtain ⟨pst, hok, htab, htr⟩ := st.table W hcd hP
  have hsz : (Ts.map Value.ref).toArray.size = ps.length := by simp [a.len]
  have hget : ∀ j, j < (Ts.map Value.ref).toArray.size → ∃ T p, Ts[j]? = some T ∧ ps[j]? = some p := fun j hj => by
    rw [hsz] at hj
    exact ⟨_, _, List.getElem?_eq_getElem (a.len ▸ hj), List.getElem?_eq_getElem hj⟩
  obtain ⟨vals, hvals⟩ := a.vals
  have hbP : ∀ c o, b.get? c = some o → c ≠ P := fun c o e q => by rw [q, W.notab P hP] at e; cases e
  refine genexp_sq (K := KK w) (c := c) (P := P) (x := x) (C₀ := 178) (Ts := fun j => Ts.getD j 0) (vals := vals) (Fv := Fv) hA hco hclos hcell h0 hxa hxb hab hkind hD hs hcode hok htab (htr.find _)
    hiter (st.k W) I (by kernel_rfl) (by kernel_rfl) (.inr ⟨_, rfl⟩) (fun j hj => ?_) (fun j hj => ?_) (fun j hj => ?_) (st.lim W) (hg ▸ st.mod W) ?_ ?_
  · obtain ⟨T, p, e1, e2⟩ := hget j hj
    simp [e1]
  · obtain ⟨T, p, e1, e2⟩ := hget j hj
    rw [List.getD_eq_getElem?_getD, e1]
    exact (hvals j T p e1 e2).1
  · obtain ⟨T, p, e1, e2⟩ := hget j hj
    obtain ⟨_, t1, t2, e3⟩ := hvals j T p e1 e2
    exact ⟨_, _, e3⟩
  · intro C code A' E' k va vb t m₂ hA' hD' hU hk hv hn hma hmb hC hkp
    obtain ⟨T, p, e1, e2⟩ := hget k hk
    obtain ⟨_, t1, t2, e3⟩ := hvals k T p e1 e2
    rw [hv] at e3
    cases e3
    exact helt C code A' E' k p t1 t2 t m₂ hA' hD' e2 hn hma hmb fun c o e => hkp c o (hbP c o e) (st.ext c o e)
  · intro g h₅ tk gs ps' fp wr St₀ hgb hk₅ hc₅ ht₅ hps Wk hst hfp hwr hty hgfp hag haw
    rw [hsz] at Wk
    obtain ⟨og, hog, _⟩ := hty _ _ hst
    exact hQ g _ fp wr St₀ (fun s' hm => Nx.gen W st hP hP2 hgb hk₅ ht₅ htr hps hwr hag haw ⟨_, hog⟩ hm) Wk hst hfp hty hgfp

theorem acc_getsize {x dx : Addr} {n : Int} {Ts : List Addr} {ps : List (Str × Str)} {Q : Value → Shared → Prop} {ex : Bool} (W : WW w b mg mb bm ob) (st : St b s) (a : Acc w b s.heap x dx n Ts ps)
    (h : ∀ t, Q (.int n t) { s with toks := s.toks + 1 }) : wpAny (model PW w) A (getAttr (.ref x) (Str.ofString "_initial_size") ex) Q E s := by
  obtain ⟨k, t, t', k', I⟩ := a.inst
  exact lget_value (K := KK w) (st.k W) I (by kernel_rfl) (by kernel_rfl) (by kernel_rfl) (findObj_own (attr := none) (by kernel_rfl) (by kernel_rfl) (by kernel_rfl) rfl) rfl (h _)

theorem plen_bound : ∀ ps : List (Str × Str), (∀ p ∈ ps, p.1.length ≤ 1000 ∧ p.2.length ≤ 1000) → plen ps ≤ 2000 * ps.length
  | [], _ => Nat.zero_le _
  | p :: r, h => by
    have h1 := plen_bound r fun q hq => h q (.tail _ hq)
    have h2 := h p (.head _)
    simp only [plen, List.length_cons]
    omega
theorem plen_take : ∀ (ps : List (Str × Str)) (j : Nat) (p : Str × Str), ps[j]? = some p → plen (ps.take (j + 1)) = plen (ps.take j) + (p.1.length + p.2.length)
  | [], _, _, h => by simp at h
  | q :: r, 0, p, h => by simp at h; subst h; simp [plen]
  | q :: r, j + 1, p, h => by
    simp only [List.getElem?_cons_succ] at h
    have := plen_take r j p h
    simp only [List.take_succ_cons, plen] at this ⊢
    omega
noncomputable def pval (ps : List (Str × Str)) (j : Nat) : Int := match ps[j]? with | some p => p.1.length + p.2.length | none => 0
theorem preSum_pval (n : Int) (ps : List (Str × Str)) : ∀ j, j ≤ ps.length → preSum (startVal n (pval ps)) (j + 1) = n + plen (ps.take j)
  | 0, _ => by simp [preSum, startVal, plen]
  | j + 1, h => by
    rw [preSum, preSum_pval n ps j (by omega)]
    have hp : ps[j]? = some ps[j] := List.getElem?_eq_getElem (by omega)
    rw [plen_take ps j _ hp]
    simp only [startVal, pval, hp]
    omega

theorem acc_len {x dx : Addr} {n : Int} {Ts : List Addr} {ps : List (Str × Str)} {Q : Value → Shared → Prop} (W : WW w b mg mb bm ob) (st : St b s) (hA : A.handled = none) (hD : A.depth < 900) (a : Acc w b s.heap x dx n Ts ps) (sm : Small n ps)
    (h : ∀ s' tk, Nx b [] s s' → Q (.int (n + plen ps) tk) s') : wpAny (model PW w) A (call (.ref 145) [.ref x]) Q E s := by
  refine enter (f := 145) (binds := [(Str.ofString "self", .ref x)]) W st (Nat.lt_trans hD (by decide)) rfl rfl (by kernel_rfl) (BindsTo.of_eq rfl) (by decide) (locs rfl) (fun A₁ s₁ E' L hA₁ hD₁ _ hL N₁ hLs hns => ?_)
  refine wpAny_execs_cons (wpAny_Return_some ?_)
  refine Call_ (nm_bi W N₁.st rfl ?_)
  refine PyProof.Rows.callWith_builtin1 (spliced_more ?_)
  have a₁ := a.nx0 N₁
  refine gen_acc (c := 144) (P := 140) (Fv := fun j y => ∃ t, y = .int (pval ps j) t) W N₁.st (hA₁.trans hA) (Nat.lt_trans (show A₁.depth < 901 by omega) (by decide)) a₁ (by kernel_rfl) (by decide) (by decide) rfl rfl (fun R hR => nm_loc hns hR) rfl ?_ ?_
  · intro C code A' E' k p t1 t2 t m₂ hA' hD' hp hn hma hmb hx
    obtain ⟨l1, l2⟩ := sm.2.2.2 p (List.mem_of_getElem? hp)
    refine ev_len_len (mg := mg) (mb := mb) rfl rfl rfl (by decide) (by decide) rfl hn hma hmb (W.mod.keeps hx).ns (mg_none W.k W.mod.ns (by kernel_rfl)) (W.bi.keeps hx) (W.boot _ (by decide)) (by omega) (by omega) fun tk tk' => ⟨⟨tk, ?_⟩, _, _, rfl, fun _ _ e => e⟩
    simp only [pval, hp]
  · intro g s₂ fp wr St₀ hNx Wk hst hfp hty hgfp
    have N₂ : Nx b [] s₁ s₂ := hNx _ (Moved.refl fun a => .inl rfl)
    have hns₂ := ns_nx hns N₂ (by rw [hL]; exact st.lt W)
    refine spliced_more (Attribute_name (nm_loc hns₂ (acc_getsize W N₂.st (a₁.nx0 N₂) fun t => spliced_none ?_)))
    refine call_sum2_walkS (by constructor <;> (have := sm.1; have := sm.2.1; omega)) ?_
    have Wk := Wk.of_in1.of_in1.of_in1
    refine Wk.self 0 _ _ _ (Wk.frame 0 s₂ s₂.heap _ hst (Nat.le_succ _) fun _ _ _ e => e) ?_
    refine ⟨g, fp, wr, GenOnlyQ s₁.gens.size, ps.length, (fun j y => ∃ t, y = .int (pval ps j) t), St₀, pval ps, rfl, Wk, Wk.frame 0 s₂ s₂.heap _ hst (Nat.le_succ _) (fun _ _ _ e => e), hfp, fun i v hv => hv, fun j hj => ?_, fun s' t' hm => ?_⟩
    · have hb := plen_bound (ps.take (j + 1)) fun p hp => sm.2.2.2 p (List.mem_of_mem_take hp)
      have hl : (ps.take (j + 1)).length ≤ 1000 := by have := sm.2.2.1; rw [List.length_take]; omega
      rw [preSum_pval n ps (j + 1) (by omega)]
      have hp : ps[j]? = some ps[j] := List.getElem?_eq_getElem hj
      have h2 := sm.2.2.2 _ (List.mem_of_getElem? hp)
      have := sm.1
      have := sm.2.1
      simp only [pval, hp]
      constructor <;> constructor <;> omega
    · rw [preSum_pval n ps ps.length (Nat.le_refl _), List.take_length]
      refine h s' t' (N₁.trans (hNx s' ?_) (by simp) (by simp))
      exact ⟨hm.heap, hm.gens, hm.drawn, hm.os, Nat.le_trans (Nat.le_succ _) hm.toks⟩
end
end Mine
end -- W8
section -- W9
/-! the accumulator's text -/
set_option maxRecDepth 100000
namespace Mine
open PySem PySem.W PySem.Calls PyProof.Rows Builtin
set_option maxHeartbeats 400000
section
variable {w : World} {A : Around} {E : Value → Shared → Prop} {s : Shared} {b : Heap} {mg mb : Str → Option Value} {bm : Addr} {ob : Obj} {env : Env}

theorem nm_glob {x : Str} {v : Value} {pos : Pos} {Q : Value → Shared → Prop} (W : WW w b mg mb bm ob) (st : St b s) (h : Q v s) (e1 : nsIn (KK w) mainGlobals x = some (some v) := by kernel_rfl) (hk : env.scope.kind = .function := by rfl) (hx : env.kindOf x = some .globalImplicit := by rfl)
    (hgl : env.globals = mainGlobals := by rfl) (hd : (x == ("__debug__" : Str)) = false := by decide) : wpAny (model PW w) A (eval (.Name x pos) env) Q E s :=
  ev_glob hk hx (hgl ▸ (st.mod W).ns) (mg_of (st.k W) (st.mod W).ns e1) h hd

noncomputable def cat (l : List Str) : Str := Txt.join (Str.ofString "") l
noncomputable def ptext (ps : List (Str × Str)) : Str := cat (ps.map fun p => cat [p.1, p.2])
noncomputable def emptyTok (w : World) : Tok := match nsIn (KK w) mainGlobals (Str.ofString "EMPTYSTRING") with | some (some (.str _ t)) => t | _ => 0
theorem ns_empty (w : World) : nsIn (KK w) mainGlobals (Str.ofString "EMPTYSTRING") = some (some (.str (Str.ofString "") (emptyTok w))) := by kernel_rfl

theorem cat_len (l : List Str) : (cat l).length = (l.map (·.length)).sum := by
  show (Builtin.Str.glued _ _).length = _
  rw [size_glued]
  show _ + _ * 0 = _
  omega
theorem cat2_len (p : Str × Str) : (cat [p.1, p.2]).length = p.1.length + p.2.length := by rw [cat_len]; simp
theorem ptext_len : ∀ ps : List (Str × Str), (ptext ps).length = plen ps := fun ps => by
  unfold ptext
  rw [cat_len]
  induction ps with
  | nil => rfl
  | cons p r ih => simp only [List.map_cons, List.sum_cons, plen, ih, cat2_len]

theorem acc_str {x dx : Addr} {n : Int} {Ts : List Addr} {ps : List (Str × Str)} {Q : Value → Shared → Prop} (W : WW w b mg mb bm ob) (st : St b s) (hA : A.handled = none) (hD : A.depth < 900) (a : Acc w b s.heap x dx n Ts ps) (sm : Small n ps)
    (h : ∀ s' tk, Nx b [] s s' → Q (.str (ptext ps) tk) s') : wpAny (model PW w) A (call (.ref 152) [.ref x]) Q E s := by
  refine enter (f := 152) (binds := [(Str.ofString "self", .ref x)]) W st (Nat.lt_trans hD (by decide)) rfl rfl (by kernel_rfl) (BindsTo.of_eq rfl) (by decide) (locs rfl) (fun A₁ s₁ E' L hA₁ hD₁ _ hL N₁ hLs hns => ?_)
  refine wpAny_execs_cons (wpAny_Return_some ?_)
  refine MethodCall_ (nm_glob W N₁.st (e1 := ns_empty w) (GM.join (PyProof.Rows.callWith_method1 (spliced_more ?_))))
  have a₁ := a.nx0 N₁
  refine gen_acc (c := 151) (P := 147) (Fv := fun j y => ∃ t, y = .str ((ps.map fun p => cat [p.1, p.2]).getD j Str.empty) t) W N₁.st (hA₁.trans hA) (Nat.lt_trans (show A₁.depth < 901 by omega) (by decide)) a₁ (by kernel_rfl) (by decide) (by decide) rfl rfl (fun R hR => nm_loc hns hR) rfl ?_ ?_
  · intro C code A' E' k p t1 t2 t m₂ hA' hD' hp hn hma hmb hx
    obtain ⟨l1, l2⟩ := sm.2.2.2 p (List.mem_of_getElem? hp)
    refine MethodCall_ (ev_glob (mg := mg) rfl rfl (W.mod.keeps hx).ns (mg_of W.k W.mod.ns (ns_empty w)) (GM.join (PyProof.Rows.callWith_method1 (spliced_more ?_))))
    refine Tuple_ (spliced_more (ev_local (m := m₂) rfl rfl hn hma (spliced_more (ev_local (m := m₂) rfl rfl hn hmb (spliced_none ?_)))))
    refine wpAny_newObj_type (spliced_none ?_) (by size_fits)
    refine PyProof.Rows.join_tuple (ys := [p.1, p.2]) ⟨_, Heap.get?_push_size _ rfl, rfl, _, rfl⟩ ?_ ?_ fun t' k' => ?_
    · exact .cons _ _ (.cons _ _ .nil)
    · show (p.1.length + (p.2.length + 0)) + 2 * 0 ≤ _
      omega
    · exact ⟨⟨t', by simp [hp, cat]⟩, _, _, rfl, fun _ _ e => Heap.get?_push_of_some _ e⟩
  · intro g s₂ fp wr St₀ hNx Wk hst hfp hty hgfp
    have N₂ : Nx b [] s₁ s₂ := hNx _ (Moved.refl fun a => .inl rfl)
    refine spliced_none ?_
    refine SC.joinGen (Wk.of_in1.of_in1) hty hst hfp hgfp (fun i v hv => let ⟨t, e⟩ := hv; ⟨_, t, e⟩) (fun s' l hm hacc => ?_) ?_
    · have e : l.map (·.1) = ps.map fun p => cat [p.1, p.2] := by
        have hl : l.length = ps.length := by have := hacc.1; simpa [strValues] using this
        refine List.ext_getElem (by simpa using hl) fun j h1 h2 => ?_
        have h1' : j < l.length := by simpa using h1
        obtain ⟨t, ht⟩ := hacc.2 j (.str (l[j]).1 (l[j]).2) (by simp [strValues, h1'])
        have h2' : j < ps.length := by simpa using h2
        injection ht with ht1 ht2
        simp only [List.getElem_map]
        rw [ht1, List.getD_eq_getElem?_getD, List.getElem?_map, List.getElem?_eq_getElem h2']
        rfl
      rw [e]
      refine ⟨joinOk_of ?_, fun t' k => ?_⟩
      · have h1 : ((ps.map fun p => cat [p.1, p.2]).map (·.length)).sum = plen ps := by rw [← cat_len]; exact ptext_len ps
        have h2 := plen_bound ps sm.2.2.2
        have h3 := sm.2.2.1
        rw [h1]
        show _ + _ * 0 ≤ _
        omega
      · refine h _ t' (N₁.trans (hNx _ hm).toks (by simp) (by simp))
    · have := sm.2.2.1
      size_fits
end
end Mine
end -- W9
section -- W10
/-! super() in a method of the list subclass: its bound built-ins -/
set_option maxRecDepth 100000
namespace Mine
open PySem PySem.W PySem.Calls PyProof.Rows Builtin
set_option maxHeartbeats 400000
section
variable {w : World} {A : Around} {E : Value → Shared → Prop} {s : Shared} {b : Heap} {mg mb : Str → Option Value} {bm : Addr} {ob : Obj} {env : Env}

theorem enterAt {f : Addr} {fd : FuncData} {body : List Stmt} {args : List Value} {kw : List (Str × Value)} {binds : List (Str × Value)} {cls : Value} {dd : Option Addr} {sl : Array (Option Value)} {Q : Value → Shared → Prop}
    (W : WW w b mg mb bm ob) (st : St b s) (hD : A.depth < recursionLimit) (hK : (KK w).lookup f = some ⟨cls, dd, .func fd, sl⟩) (hbody : fd.body = .stmts body) (hcd : codeIn (KK w) fd.code fd.qualname = true)
    (hbind : BindsTo s fd ⟨args, kw⟩ binds) (hcell : ∀ x ∈ fd.scope.names, x.2 ≠ .cell) (hloc : ∀ x ∈ binds, fd.scope.names.lookup x.1 = some .local)
    (h : ∀ A₁ s₁ E' L, A₁.handled = A.handled → A₁.depth = A.depth + 1 → A₁.units = A.units + 3 → L = s.heap.objs.size → Nx b [] s s₁ → L < s₁.heap.objs.size → s₁.heap.Ns L (fun x => binds.reverse.lookup x) →
      _root_.PySem.wpAt (model PW w) A₁ (.func body (callEnv fd L f)) (execs body (callEnv fd L f)) (fun fl s' => Q (match fl with | .ret v => v | _ => .none) s') E' s₁)
    (hco : fd.scope.isCoroutine = false := by rfl) (hgen : fd.scope.isGenerator = false := by rfl) (hk : fd.scope.kind = .function := by rfl) :
    wpAny (model PW w) A (call (.ref f) args kw) Q E s := by
  refine wpAny_call (ks_codeAny_call_defAt (fd := fd) (body := body) hD (st.k W _ _ hK) rfl (st.lim W) (codeRec_of (st.k W) hcd) hbody hbind hcell hloc (fun h₀ hns hk₀ => ?_) hco hgen hk)
  obtain ⟨o, es, ep, ho, _⟩ := id hns
  exact h _ _ _ _ rfl rfl rfl rfl (Nx.all st hk₀ rfl rfl rfl (Nat.le_of_lt (Heap.lt_size ho))) (Heap.lt_size ho) hns

theorem Nx0.push {o : Obj} (st : St0 b s) : Nx0 b [] s { s with heap := s.heap.push o } := Nx0.all st (fun a o e => Heap.get?_push_of_some _ e) rfl rfl rfl (by show _ ≤ (s.heap.push o).objs.size; rw [Heap.size_push]; exact Nat.le_succ _)
theorem Nx.push {o : Obj} (st : St b s) : Nx b [] s { s with heap := s.heap.push o } := Nx.all st (fun a o e => Heap.get?_push_of_some _ e) rfl rfl rfl (by show _ ≤ (s.heap.push o).objs.size; rw [Heap.size_push]; exact Nat.le_succ _)

noncomputable def superObj (x : Addr) : Obj := ks_superObj 178 x 178
/-- super() of a method whose first argument is x -/
theorem super_base {x : Addr} {ox : Obj} {odx : Option Obj} {m : Str → Option Value} {body : List Stmt} {p0 p1 : Pos} {attr : Str} {whole : Sem Value} {f cda : Addr} {fd : FuncData} {ar : Arg} {vs : Array Value} {file : Str} {tf : Tok} {oc ccl : Value} {od cdd : Option Addr} {osl ccs : Array (Option Value)} {Q : Value → Shared → Prop}
    (W : WW w b mg mb bm ob) (st : St b s) (hns : s.heap.Ns env.locals m) (I : InstAt s.heap x ox 178 odx)
    (hfu : env.func = some f) (hf : (KK w).lookup f = some ⟨oc, od, .func fd, osl⟩) (hp : (fd.params.posonlyargs ++ fd.params.args).head? = some ar) (hv : m ar.arg = some (.ref x))
    (hco : env.code = .ref cda) (hcode : (KK w).lookup cda = some ⟨ccl, cdd, .fields vs, ccs⟩) (hvs : vs[2]? = some (.str file tf))
    (h : ∀ s', Nx b [] s s' → s'.heap.get? s.heap.objs.size = some (superObj x) → Q (.ref s.heap.objs.size) s')
    (hfile : ((PW.main.file : Str) == file) = true := by kernel_rfl) (hcl : env.cells.lookup ("__class__" : Str) = some 102 := by rfl)
    (hat : (attr == ("__class__" : Str)) = false := by decide) (hks : env.kindOf "super" = some .globalImplicit := by rfl) (hkc : env.kindOf "__class__" = some .free := by rfl) (hka : env.kindOf ar.arg = some .local := by rfl) (hk : env.scope.kind = .function := by rfl)
    (hgl : env.globals = mainGlobals := by rfl) (hbl : env.builtins = builtinsNs := by rfl) :
    _root_.PySem.wpAt (model PW w) A (.func body env) (attributeBase (.Call (.Name "super" p0) [] [] p1) attr env whole) Q E s := by
  have X := st.k W
  refine ks_wpAt_super_base hks hkc hat hfu (X _ _ hf) rfl hp hco (X _ _ hcode) rfl hvs hfile (by kernel_rfl) ?_
  refine ks_loadName_global hk hks (loadGlobal_builtin (hgl ▸ (st.mod W).ns) (mg_none X (st.mod W).ns (by kernel_rfl)) (hbl ▸ st.bi W) ((W.boot _ (by decide +kernel)).trans (by kernel_rfl)) ⟨rfl, ?_⟩)
  refine wpAny_loadName_free hk hkc hcl ⟨_, X 102 _ rfl, rfl⟩ ?_
  refine wpAny_loadName_local hk hka hns hv ?_
  obtain ⟨hh, g, d, t, os⟩ := s
  refine ks_wpAny_isType_cls (X 178 _ rfl) rfl ⟨rfl, ?_⟩
  refine ks_wpAny_call_super (X 178 _ rfl) rfl I.at_ I.cls (fun c e => ?_) (looks_mroIn X (by kernel_rfl)) (fun h' e k => ?_)
  · have := I.no
    unfold notCls at this
    rw [e] at this
    exact Bool.noConfusion this
  · exact h _ (Nx.all st k rfl rfl rfl (Nat.le_of_lt (Heap.lt_size e))) e
end
end Mine
end -- W10
section -- W11
/-! super().meth with meth a built-in of list -/
set_option maxRecDepth 100000
namespace Mine
open PySem PySem.W PySem.Calls PyProof.Rows Builtin
set_option maxHeartbeats 400000

theorem slot_wd_get : Slot "wrapper_descriptor" "__get__" "wrapper_descriptor.__get__" := .of (owner := "wrapper_descriptor") (n := "__get__") (by rw [typeLookup_type, builtinLookup_eq_fast]; kernel_rfl) (by decide +kernel) (by decide +kernel) (by decide +kernel)
  (by first | exact .inl (by decide +kernel) | exact .inr (by decide +kernel)) (by rw [isSubtype_type]; kernel_rfl)
theorem entry_wd_get : entryFor table "wrapper_descriptor.__get__" = some Builtin.«wrapper_descriptor.__get__» := entryFor_of_tree (by kernel_rfl)
theorem own_wd : Manifest.owners.lookup (String.ofList ['r', 'o', 't', 'p', 'i', 'r', 'c', 's', 'e', 'd', '_', 'r', 'e', 'p', 'p', 'a', 'r', 'w'].reverse) = some Manifest.sig_wrapper_descriptor := by kernel_rfl
theorem args_wd_get (a b c : Value) : argsOk "wrapper_descriptor.__get__" ⟨[a, b, c], []⟩ := by
  unfold argsOk; rw [signature?_of (id := "wrapper_descriptor.__get__") (n := ['_', '_', 't', 'e', 'g', '_', '_']) (o := ['r', 'o', 't', 'p', 'i', 'r', 'c', 's', 'e', 'd', '_', 'r', 'e', 'p', 'p', 'a', 'r', 'w']) (by kernel_rfl) own_wd]; kernel_rfl
theorem slot_md_get : Slot "method_descriptor" "__get__" "method_descriptor.__get__" := .of (owner := "method_descriptor") (n := "__get__") (by rw [typeLookup_type, builtinLookup_eq_fast]; kernel_rfl) (by decide +kernel) (by decide +kernel) (by decide +kernel)
  (by first | exact .inl (by decide +kernel) | exact .inr (by decide +kernel)) (by rw [isSubtype_type]; kernel_rfl)
theorem entry_md_get : entryFor table "method_descriptor.__get__" = some Builtin.«method_descriptor.__get__» := entryFor_of_tree (by kernel_rfl)
theorem own_md : Manifest.owners.lookup (String.ofList ['r', 'o', 't', 'p', 'i', 'r', 'c', 's', 'e', 'd', '_', 'd', 'o', 'h', 't', 'e', 'm'].reverse) = some Manifest.sig_method_descriptor := by kernel_rfl
theorem args_md_get (a b c : Value) : argsOk "method_descriptor.__get__" ⟨[a, b, c], []⟩ := by
  unfold argsOk; rw [signature?_of (id := "method_descriptor.__get__") (n := ['_', '_', 't', 'e', 'g', '_', '_']) (o := ['r', 'o', 't', 'p', 'i', 'r', 'c', 's', 'e', 'd', '_', 'd', 'o', 'h', 't', 'e', 'm']) (by kernel_rfl) own_md]; kernel_rfl

section
variable {w : World} {A : Around} {E : Value → Shared → Prop} {s : Shared} {b : Heap} {mg mb : Str → Option Value} {bm : Addr} {ob : Obj} {env : Env}

theorem wd_get_eq (id : String) (x : Addr) (C : Addr) : ∃ (X : Sem Unit), Builtin.«wrapper_descriptor.__get__» ⟨[.builtin id, .ref x, .ref C], []⟩ =
    ((do if !(← isInstance (.ref x) (.type (".".intercalate (id.cutAt '.').dropLast))) then X else pure ()) >>= fun _ => (newFields "method-wrapper" [.builtin id, .ref x] >>= fun v => ret v)) := ⟨_, rfl⟩
theorem md_get_eq (id : String) (x : Addr) (C : Addr) (h : Manifest.toldItsClass.contains id = false) : ∃ (X : Sem Unit), Builtin.«method_descriptor.__get__» ⟨[.builtin id, .ref x, .ref C], []⟩ =
    ((do if !(← isInstance (.ref x) (.type (".".intercalate (id.cutAt '.').dropLast))) then X else pure ()) >>= fun _ => (newFields "builtin_function_or_method" [.builtin id, .ref x] >>= fun v => ret v)) := by
  constructor
  show (if Manifest.toldItsClass.contains id = true then (_ : Sem Fin) else _) = _
  rw [h]
  rfl

noncomputable def boundObj (kind id : String) (x : Addr) : Obj := { cls := .type kind, data := .fields #[.builtin id, .ref x] }
theorem bind_tail {x : Addr} {ox : Obj} {odx : Option Obj} {id kind : String} {X : Sem Unit} {Q : Fin → Shared → Prop} (W : WW w b mg mb bm ob) (st : St b s) (I : InstAt s.heap x ox 178 odx)
    (hid : ".".intercalate (id.cutAt '.').dropLast = "list")
    (hq : Q (.done (.ret (.ref s.heap.objs.size))) { s with heap := s.heap.push (boundObj kind id x) }) :
    wpAny (model PW w) A ((do if !(← isInstance (.ref x) (.type (".".intercalate (id.cutAt '.').dropLast))) then X else pure ()) >>= fun _ => (newFields kind [.builtin id, .ref x] >>= fun v => ret v)) Q E s := by
  rw [hid]
  have L : Looks (model PW w) s.heap (isInstance (.ref x) (.type "list")) true := I.type.andThen (looks_mroIn (st.k W) (by kernel_rfl))
  refine wpAny_bind (wpAny_bind (L.here ?_))
  simp only [Bool.not_true, Bool.false_eq_true, if_false]
  refine wpAny_pure (wpAny_bind ?_)
  exact wpAny_newObj_type (wpAny_pure hq)
theorem super_ga_b {so x : Addr} {ox : Obj} {odx : Option Obj} {id kind td gid : String} {Bg : Builtin} {name : Str} {tk : Tok} {Q : Fin → Shared → Prop}
    (W : WW w b mg mb bm ob) (st : St b s) (I : InstAt s.heap x ox 178 odx) (hso : s.heap.get? so = some (superObj x))
    (hf : alongIn (KK w) name [.type "list", .type "object"] = some (some (.builtin id))) (hid : ".".intercalate (id.cutAt '.').dropLast = "list")
    (htd : ∀ s' : Shared, s'.TypeIs (.builtin id) td) (sg : Slot td "__get__" gid) (eg : entryFor table gid = some Bg) (ag : argsOk gid ⟨[.builtin id, .ref x, .ref 178], []⟩)
    (hbg : ∃ (X : Sem Unit), Bg ⟨[.builtin id, .ref x, .ref 178], []⟩ = ((do if !(← isInstance (.ref x) (.type (".".intercalate (id.cutAt '.').dropLast))) then X else pure ()) >>= fun _ => (newFields kind [.builtin id, .ref x] >>= fun v => ret v)))
    (hx : x ≠ 178) (hn : (name == ("__class__" : Str)) = false)
    (hq : Q (.done (.ret (.ref s.heap.objs.size))) { s with heap := s.heap.push (boundObj kind id x) }) :
    wpAny (model PW w) A (Builtin.«super.__getattribute__» ⟨[.ref so, .str name tk], []⟩) Q E s := by
  have hlk := sg.lookup
  have hne : (Value.ref x == Value.ref 178) = false := by simp [hx]
  have hdt : (superObj x).data = .fields #[.ref 178, .ref x, .ref 178] := rfl
  have f0 : (#[.ref 178, .ref x, .ref 178] : Array Value)[0]? = some (.ref 178) := rfl
  have f1 : (#[.ref 178, .ref x, .ref 178] : Array Value)[1]? = some (.ref x) := rfl
  have f2 : (#[.ref 178, .ref x, .ref 178] : Array Value)[2]? = some (.ref 178) := rfl
  have X := st.k W
  have hno : Looks (model PW w) s.heap (opaqueClassAbove (.ref 178)) none := looks_opaque X (by kernel_rfl)
  have hc : ∃ cd, clsIn (KK w) 178 = some cd ∧ (cd.mro.dropWhile (· != .ref 178)).drop 1 = [.type "list", .type "object"] := ⟨_, rfl, by kernel_rfl⟩
  obtain ⟨cd, hc, hl⟩ := hc
  have hC : Looks (model PW w) s.heap (mroOf (.ref 178)) cd.mro := fun A Q E s k q => wpAny_bind ((looks_clsIn X hc) A _ E s k (wpAny_pure q))
  have hbody : ∀ (A' : Around) (Q' : Fin → Shared → Prop) (E' : Value → Shared → Prop), Q' (.done (.ret (.ref s.heap.objs.size))) { s with heap := s.heap.push (boundObj kind id x) } → wpAny (model PW w) A' (Bg ⟨[.builtin id, .ref x, .ref 178], []⟩) Q' E' s := fun A' Q' E' q => by
    obtain ⟨Y, e⟩ := hbg
    rw [e]
    exact bind_tail W st I hid q
  obtain ⟨h, g, d, t, os⟩ := s
  unfold Builtin.«super.__getattribute__»
  repeat (first
    | (with_reducible refine wpAny_field hso hdt f0 ?_) | (with_reducible refine wpAny_field hso hdt f1 ?_) | (with_reducible refine wpAny_field hso hdt f2 ?_)
    | (with_reducible refine ks_wpAny_notOpaque hno ?_)
    | (with_reducible refine Looks.at hC ?_; rw [hl])
    | (refine ks_forIn_along X (fun _ _ => rfl) rfl ?_ hf)
    | (with_reducible refine wpAny_typeOf (htd _) ?_)
    | (with_reducible refine wpAny_call_entry sg (htd _) eg ?_ ag)
    | (with_reducible refine hbody _ _ _ ?_)
    | (with_reducible refine ⟨_, rfl, ?_⟩)
    | (simp only [hn, hne, Bool.or_false, Bool.false_eq_true, if_false])
    | wp_step
    | dsimp only)
  all_goals exact hq

theorem super_meth {so x : Addr} {ox : Obj} {odx : Option Obj} {id kind td gid : String} {Bg : Builtin} {name : Str} {pl : Sem Bool} {Q : Value × List Value → Shared → Prop}
    (W : WW w b mg mb bm ob) (st : St b s) (I : InstAt s.heap x ox 178 odx) (hso : s.heap.get? so = some (superObj x))
    (hf : alongIn (KK w) name [.type "list", .type "object"] = some (some (.builtin id))) (hid : ".".intercalate (id.cutAt '.').dropLast = "list")
    (htd : ∀ s' : Shared, s'.TypeIs (.builtin id) td) (sg : Slot td "__get__" gid) (eg : entryFor table gid = some Bg) (ag : argsOk gid ⟨[.builtin id, .ref x, .ref 178], []⟩)
    (hbg : ∃ (X : Sem Unit), Bg ⟨[.builtin id, .ref x, .ref 178], []⟩ = ((do if !(← isInstance (.ref x) (.type (".".intercalate (id.cutAt '.').dropLast))) then X else pure ()) >>= fun _ => (newFields kind [.builtin id, .ref x] >>= fun v => ret v)))
    (hx : x ≠ 178) (hn : (name == ("__class__" : Str)) = false)
    (hq : Q (.ref s.heap.objs.size, []) { s with heap := s.heap.push (boundObj kind id x), toks := s.toks + 1 }) :
    wpAny (model PW w) A (getMethod (.ref so) name pl) Q E s := by
  have hlk := F.ks_slot_super_ga.lookup
  have hcan := F.ks_canon_super_ga
  have st' : St b { s with toks := s.toks + 1 } := st.toks
  obtain ⟨h, g, d, t, os⟩ := s
  have hT : ∀ t', (⟨h, g, d, t', os⟩ : Shared).TypeIs (.ref so) "super" := fun _ => ⟨_, hso, rfl⟩
  unfold getMethod
  refine wpAny_bind (wpAny_specialOf (hT _) hlk ?_)
  show wpAny _ _ (if (Manifest.canonical "super.__getattribute__" != "object.__getattribute__") = true then _ else _) _ _ _
  rw [if_pos hcan]
  unfold getAttr getAttrBy
  refine wpAny_bind (wpAny_bind (wpAny_mkText (wpAny_holding (wpAny_bind (wpAny_typeOf (hT _) (wpAny_bind (wpAny_of_eq hlk ?_)))))))
  show wpAny _ _ (getAttrByItsOwn (.ref so) (.str name t) (.type "super") (.builtin "super.__getattribute__") true false) _ _ _
  unfold getAttrByItsOwn hookBefore callGetattribute boundAndCalled
  refine wpAny_bind (wpAny_of_eq (show (if onTheHeap (.type "super") then typeLookup (.type "super") "__getattr__" else pure none) = pure none from rfl) ?_)
  refine wpAny_bind (wpAny_attempt (wpAny_holding ?_))
  show wpAny _ _ (bindSpecial (.builtin "super.__getattribute__") (.ref so) >>= _) _ _ _
  refine wpAny_bind (wpAny_of_eq (F.ks_slot_super_ga.bind _) ?_)
  refine wpAny_mono (Q := fun v s' => v = .ref h.objs.size ∧ s' = ⟨h.push (boundObj kind id x), g, d, t + 1, os⟩) (E := fun _ _ => False)
    (wpAny_call_entry F.ks_slot_super_ga (hT _) F.ks_entry_super_ga (super_ga_b W st' I hso hf hid htd sg eg ag hbg hx hn ⟨_, rfl, rfl, rfl⟩) (F.ks_gaArgs_super _ _)) (fun v s' hv => ?_) fun _ _ z => z.elim
  obtain ⟨rfl, rfl⟩ := hv
  exact wpAny_pure (wpAny_pure hq)
end
end Mine
end -- W11
section -- W12
/-! calling a bound built-in; part_count, pop -/
set_option maxRecDepth 100000
namespace Mine
open PySem PySem.W PySem.Calls PyProof.Rows Builtin
set_option maxHeartbeats 400000
section
variable {w : World} {A : Around} {E : Value → Shared → Prop} {s : Shared} {b : Heap} {mg mb : Str → Option Value} {bm : Addr} {ob : Obj} {env : Env}

theorem call_bound {q x : Addr} {id kind : String} {Bi : Builtin} {rest : List Value} {Q : Value → Shared → Prop} (hq : s.heap.get? q = some (boundObj kind id x)) (hk : kind = "method-wrapper" ∨ kind = "builtin_function_or_method")
    (hp : plainId id = true) (he : entryFor table id = some Bi)
    (hc : ∀ (A' : Around) (Q' : Unit → Shared → Prop) (E' : Value → Shared → Prop), Q' () s → wpAny (model PW w) A' (checkBoundCall id ⟨.ref x :: rest, []⟩) Q' E' s)
    (h : wpAny (model PW w) A.in1 (Bi ⟨.ref x :: rest, []⟩) (fun fin s' => ∃ v, fin = .done (.ret v) ∧ Q v s') E s) :
    wpAny (model PW w) A (call (.ref q) rest) Q E s := by
  refine wpAny_call (codeAny_of_tree ?_)
  show wpAny _ A.in1 (callAny (.ref q) ⟨rest, []⟩) _ _ _
  unfold callAny
  refine wpAny_bind (wpAny_load hq ?_)
  have main : wpAny (model PW w) A.in1 (checkBoundCall id ⟨.ref x :: rest, []⟩ >>= fun _ => again (.builtin id ⟨.ref x :: rest, []⟩))
      (fun fin s' => match fin with
        | .done f => (match (Except.ok f : Result) with | .ok (.ret v) => Q v s' | .ok _ => False | .error e => E e s')
        | .again c' => c'.quiet = true ∧ codeAny (model PW w) A c' (fun r s' => match r with | .ok (.ret v) => Q v s' | .ok _ => False | .error e => E e s') s')
      (fun e s' => E e s') s := by
    refine wpAny_bind (hc _ _ _ (wpAny_pure ⟨plainId_quiet hp _, codeAny_builtin he ?_⟩))
    rw [Around.under_plainId hp]
    refine wpAny_mono h (fun fin s' hv => ?_) fun _ _ z => z
    obtain ⟨v, rfl, hv⟩ := hv
    exact hv
  rcases hk with rfl | rfl
  · exact main
  · exact main

/-- callWith upon a bound built-in, no arguments -/
theorem callWith_bound0 {q x : Addr} {id kind : String} {pos : Pos} {Q : Value → Shared → Prop} (hq : s.heap.get? q = some (boundObj kind id x)) (hk : kind = "method-wrapper" ∨ kind = "builtin_function_or_method")
    (h : wpAny (model PW w) A (call (.ref q) []) Q E s) : wpAny (model PW w) A (callWith pos (.ref q) [] (backTo pos (starEach [] env)) []) Q E s := by
  refine callWith_of (P := fun h => h.get? q = some (boundObj kind id x)) rfl (fun h e => ⟨.machine, .inr (.inl rfl), ?_⟩) (evalArgs_nil3 ⟨hq, h⟩)
  refine (Looks.ld (part := none) e).andThen ?_
  rcases hk with rfl | rfl
  · exact .now
  · exact .now

theorem check_len (x : Addr) : checkBoundCall "list.__len__" ⟨[.ref x], []⟩ = pure () := by kernel_rfl
theorem entry_len' : entryFor table "list.__len__" = some Builtin.«list.__len__» := entryFor_of_tree (by kernel_rfl)
theorem not178 {w b h x dx n Ts ps} (a : Acc w b h x dx n Ts ps) : x ≠ 178 := fun e => by
  have := a.gx
  rw [e] at this
  exact absurd this (by decide)

theorem acc_count {x dx : Addr} {n : Int} {Ts : List Addr} {ps : List (Str × Str)} {Q : Value → Shared → Prop} (W : WW w b mg mb bm ob) (st : St b s) (hA : A.handled = none) (hD : A.depth < 900) (a : Acc w b s.heap x dx n Ts ps)
    (h : ∀ s' tk, Nx b [] s s' → Q (.int ps.length tk) s') : wpAny (model PW w) A (call (.ref 175) [.ref x]) Q E s := by
  refine enterAt (f := 175) (binds := [(Str.ofString "self", .ref x)]) W st (Nat.lt_trans hD (by decide)) rfl rfl (by kernel_rfl) (BindsTo.of_eq rfl) (by decide) (locs rfl) (fun A₁ s₁ E' L hA₁ hD₁ _ hL N₁ hLs hns => ?_)
  refine ks_wpAt_execs_cons (ks_wpAt_Return_some ?_)
  obtain ⟨k, t, t', k', I⟩ := (a.nx0 N₁).inst
  refine ks_wpAt_MethodCall (super_base (x := x) (f := 175) W N₁.st hns I rfl rfl rfl rfl rfl rfl rfl (fun s₂ N₂ hso => ?_))
  have a₂ := (a.nx0 N₁).nx0 N₂
  obtain ⟨k, t, t', k', I⟩ := a₂.inst
  refine super_meth (id := "list.__len__") (kind := "method-wrapper") (td := "wrapper_descriptor") W N₂.st I hso (by kernel_rfl) (by decide +kernel) (fun _ => by show builtinType _ = _; rw [builtinType_eq_fast]; kernel_rfl) slot_wd_get entry_wd_get (args_wd_get _ _ _) (wd_get_eq _ _ _) (not178 a) (by decide) ?_
  have N₃ := N₂.st |> Nx.push (o := boundObj "method-wrapper" "list.__len__" x)
  have hq : (s₂.heap.push (boundObj "method-wrapper" "list.__len__" x)).get? s₂.heap.objs.size = some (boundObj "method-wrapper" "list.__len__" x) := Heap.get?_push_at rfl rfl
  refine callWith_bound0 hq (.inl rfl) (call_bound hq (.inl rfl) (by decide +kernel) entry_len' (fun A' Q' E' q => wpAny_of_eq (check_len x) q) ?_)
  have e1 : slotArgs "__len__" 0 ⟨[.ref x], []⟩ = pure (.ref x, []) := rfl
  unfold Builtin.«list.__len__»
  refine wpAny_bind (wpAny_of_eq e1 ?_)
  have a₃ := a₂.nx0 N₃
  obtain ⟨k, ho⟩ := a₃.at_
  show wpAny _ _ (seqSize x >>= fun r => retInt r) _ _ _
  unfold seqSize
  refine wpAny_bind (wpAny_bind (wpAny_loadPart ho (wpAny_pure ?_)))
  refine wpAny_bind (wpAny_mkInt (wpAny_pure ⟨_, rfl, ?_⟩))
  have e2 : (Ts.map Value.ref).toArray.size = ps.length := by simp [a.len]
  rw [e2]
  exact h _ _ ((N₁.tr N₂).tr N₃).toks
end
end Mine
end -- W12
section -- W13
/-! methods of the accumulator called by name; pop -/
set_option maxRecDepth 100000
namespace Mine
open PySem PySem.W PySem.Calls PyProof.Rows Builtin
set_option maxHeartbeats 400000
section
variable {w : World} {A : Around} {E : Value → Shared → Prop} {s : Shared} {b : Heap} {mg mb : Str → Option Value} {bm : Addr} {ob : Obj} {env : Env}

theorem acc_meth {x dx f : Addr} {n : Int} {Ts : List Addr} {ps : List (Str × Str)} {name : Str} {pl : Sem Bool} {Q : Value × List Value → Shared → Prop} (W : WW w b mg mb bm ob) (st : St b s) (a : Acc w b s.heap x dx n Ts ps)
    (h : Q (.ref f, [.ref x]) s) (hf : findIn (KK w) (.ref 178) name = some (some (.ref f)) := by kernel_rfl) (ht : typeIn (KK w) (.ref f) = some (.type "function") := by kernel_rfl) (hn : (name == Str.ofString "_initial_size") = false := by decide) :
    wpAny (model PW w) A (getMethod (.ref x) name pl) Q E s := by
  obtain ⟨k, t, t', k', I⟩ := a.inst
  refine lmethod_fn (K := KK w) (st.k W) I (by kernel_rfl) (by kernel_rfl) hf ht (by decide) ?_ h
  show (lookIn name (dictOf _ _)).map _ = _
  rw [lookIn_dict]
  have e : getL name [⟨PyData.keyHash w.params (Str.ofString "_initial_size"), .str (Str.ofString "_initial_size") t', .int n t⟩] = some none := by
    have : (Str.ofString "_initial_size" == name) = false := by rw [Bool.eq_false_iff] at hn ⊢; intro q; exact hn (by rw [beq_iff_eq] at q ⊢; exact q.symm)
    simp [getL, Value.isStr, this]
    rfl
  rw [e]
  rfl

theorem meth0 {x dx f : Addr} {n : Int} {Ts : List Addr} {ps : List (Str × Str)} {name : Str} {pl : Sem Bool} {pos : Pos} {Q : Value → Shared → Prop} (W : WW w b mg mb bm ob) (st : St b s) (a : Acc w b s.heap x dx n Ts ps)
    (h : wpAny (model PW w) A (call (.ref f) [.ref x]) Q E s)
    (hf : findIn (KK w) (.ref 178) name = some (some (.ref f)) := by kernel_rfl) (ht : typeIn (KK w) (.ref f) = some (.type "function") := by kernel_rfl) (hkp : keepIn (KK w) (.ref f) = true := by kernel_rfl) (hn : (name == Str.ofString "_initial_size") = false := by decide) :
    wpAny (model PW w) A (getMethod (.ref x) name pl) (fun fx s₂ => wpAny (model PW w) A (callWith pos fx.1 fx.2 (backTo pos (starEach [] env)) []) Q E s₂) E s :=
  acc_meth W st a (callWith_K0 (st.k W) hkp h) hf ht hn
theorem meth1 {x dx f : Addr} {n : Int} {Ts : List Addr} {ps : List (Str × Str)} {name : Str} {pl : Sem Bool} {pos : Pos} {e : Expr} {rest : List Expr} {Q : Value → Shared → Prop} (W : WW w b mg mb bm ob) (st : St b s) (a : Acc w b s.heap x dx n Ts ps)
    (h : wpAny (model PW w) A (spliced (backTo pos (starEach (e :: rest) env))) (fun vs s₁ => St b s₁ ∧ wpAny (model PW w) A (call (.ref f) (.ref x :: vs)) Q E s₁) E s)
    (he : starEach (e :: rest) env = (false, eval e env) :: starEach rest env := by rfl) (hplain : (backTo pos (starEach rest env)).any (·.1) = false := by rfl)
    (hf : findIn (KK w) (.ref 178) name = some (some (.ref f)) := by kernel_rfl) (ht : typeIn (KK w) (.ref f) = some (.type "function") := by kernel_rfl) (hkp : keepIn (KK w) (.ref f) = true := by kernel_rfl) (hn : (name == Str.ofString "_initial_size") = false := by decide) :
    wpAny (model PW w) A (getMethod (.ref x) name pl) (fun fx s₂ => wpAny (model PW w) A (callWith pos fx.1 fx.2 (backTo pos (starEach (e :: rest) env)) []) Q E s₂) E s :=
  acc_meth W st a (callWith_K (K := KK w) (st.k W) hkp (wpAny_mono h (fun vs s₁ h₁ => ⟨h₁.1.k W, h₁.2⟩) fun _ _ z => z) he hplain) hf ht hn

theorem Nx.size {X : List Addr} {s s' : Shared} (N : Nx b X s s') {a : Addr} (h : s'.heap.objs.size ≤ a) : s.heap.objs.size ≤ a := Nat.le_trans N.sz h
theorem St0.fresh {a : Addr} (st : St0 b s) (h : s.heap.objs.size ≤ a) : b.get? a = none := by
  cases e : b.get? a with
  | none => rfl
  | some o => exact absurd (Heap.lt_size (st.ext a o e)) (Nat.not_lt.mpr h)

theorem acc_pop_nil {x dx : Addr} {n : Int} {Q : Value → Shared → Prop} (W : WW w b mg mb bm ob) (st : St b s) (hA : A.handled = none) (hD : A.depth < 890) (a : Acc w b s.heap x dx n [] [])
    (h : ∀ s' T, Nx b [] s s' → TupAt s'.heap T (Str.ofString "", Str.ofString "") → s.heap.objs.size ≤ T → Q (.ref T) s') : wpAny (model PW w) A (call (.ref 138) [.ref x]) Q E s := by
  refine enterAt (f := 138) (binds := [(Str.ofString "self", .ref x)]) W st (Nat.lt_trans hD (by decide)) rfl rfl (by kernel_rfl) (BindsTo.of_eq rfl) (by decide) (locs rfl) (fun A₁ s₁ E' L hA₁ hD₁ _ hL N₁ hLs hns => ?_)
  refine ks_wpAt_execs_cons (ks_wpAt_If (wpAt_of_wpAny (wpAny_isTrue_Compare1 ?_)))
  refine MethodCall_ (nm_loc hns (meth0 (f := 175) W N₁.st (a.nx0 N₁) ?_))
  refine acc_count W N₁.st (hA₁.trans hA) (by omega) (a.nx0 N₁) fun s₂ tk N₂ => ?_
  refine wpAny_Constant_int (PyProof.Rows.eq_int (wpAny_truthy_bool ?_))
  show PySem.wpAt _ _ _ _ _ _ _
  refine wpAt_of_wpAny (wpAny_execs_cons (wpAny_Return_some (Tuple_ (spliced_more (wpAny_Constant_str (spliced_more (wpAny_Constant_str (spliced_none ?_))))))))
  refine wpAny_newObj_type ?_ (by size_fits)
  have N₃ := (N₁.tr N₂).toks (k := s₂.toks + 1 + 1 + 1)
  refine h _ _ (N₃.tr (Nx.push N₃.st)) ⟨_, _, _, Heap.get?_push_size _ rfl, rfl, _, rfl⟩ N₃.sz
end
end Mine
end -- W13
section -- W14
/-! pop on a line that holds something -/
set_option maxRecDepth 100000
namespace Mine
open PySem PySem.W PySem.Calls PyProof.Rows Builtin
set_option maxHeartbeats 400000
section
variable {w : World} {A : Around} {E : Value → Shared → Prop} {s : Shared} {b : Heap} {mg mb : Str → Option Value} {bm : Addr} {ob : Obj} {env : Env}

theorem list_pop_body {C : Value} {dd : Option Addr} {sl : Array (Option Value)} {l : Addr} {items : Array Value} {n : Nat} {y : Value} {M : Model} {Q : Fin → Shared → Prop} (hl : s.heap.get? l = some ⟨C, dd, .seq items n, sl⟩) (hy : items[items.size - 1]? = some y)
    (h : Q (.done (.ret y)) { s with heap := s.heap.update l (Obj.mapSeq fun xs => xs.eraseIdxIfInBounds (items.size - 1)) }) (hs1 : items.size ≤ sizeLine := by size_fits) :
    wpAny M A (Builtin.«list.pop» ⟨[.ref l], []⟩) Q E s := by
  obtain ⟨hp, g, d, tk, os⟩ := s
  have hpos : 0 < items.size := by
    rcases Nat.eq_zero_or_pos items.size with h0 | h0
    · simp [h0] at hy
    · exact h0
  have hne : ¬ items.isEmpty = true := by
    intro he; have : items.size = 0 := by simpa using he
    omega
  have hk : seqIndex? (-1) items.size = some (items.size - 1) := by
    rw [seqIndex_neg (by omega) (by omega)]; congr 1; omega
  wp_walk using wpAny_loadPart' hl
  simp only [hk, hy, Option.bind_some, Option.map_some]
  have hz' : (items.eraseIdxIfInBounds (items.size - 1)).size ≤ sizeLine + 1 := by unfold Array.eraseIdxIfInBounds; split <;> (try rw [Array.size_eraseIdx]) <;> omega
  wp_walk using (wpAny_updateSeq hl rfl (hz := hs1) (_hz' := hz')), wpAny_loadPart' hl
  exact h
theorem kind_pop : builtinKind "list.pop" = some .method := by decide +kernel
theorem sig_pop (x : Addr) : ∃ sig, Manifest.signature? "list.pop" = some sig ∧ Bind.checkArgs "list.pop" { sig with full := s!"{("_Accumulator" : Str).toString}.{Bind.lastOf "list.pop"}" } ⟨[.ref x], []⟩ = pure () :=
  ⟨(Manifest.signature? "list.pop").get (by decide +kernel), (Option.some_get _).symm, by kernel_rfl⟩
theorem check_pop {x : Addr} {ox : Obj} {odx : Option Obj} {Q' : Unit → Shared → Prop} (W : WW w b mg mb bm ob) (st : St b s) (I : InstAt s.heap x ox 178 odx) (q : Q' () s) : wpAny (model PW w) A (checkBoundCall "list.pop" ⟨[.ref x], []⟩) Q' E s := by
  obtain ⟨sig, hs, hc⟩ := sig_pop x
  have X := st.k W
  have hk := kind_pop
  have L1 : Looks (model PW w) s.heap (isInstance (.ref x) (.type "module")) false := I.type.andThen (looks_mroIn X (by kernel_rfl))
  have L2 : Looks (model PW w) s.heap (typeOf (.ref x)) (.ref 178) := I.type
  have L3 : Looks (model PW w) s.heap (typeOf (.ref 178)) (.type "type") := looks_typeIn X (by kernel_rfl)
  have hnc : ∀ c, ox.data ≠ .cls c := fun c e => by
    have := I.no
    unfold notCls at this
    rw [e] at this
    exact Bool.noConfusion this
  have hx := I.at_
  obtain ⟨cd, hcd, hq⟩ : ∃ cd : ClassData, (∃ o, s.heap.get? 178 = some o ∧ o.data = .cls cd) ∧ cd.qualname = "_Accumulator" := ⟨_, ⟨_, X 178 _ rfl, rfl⟩, rfl⟩
  obtain ⟨o178, ho, hod⟩ := hcd
  have hv : (Manifest.varargsMethods.contains "list.pop") = false := by decide +kernel
  obtain ⟨h, g, d, t, os⟩ := s
  unfold checkBoundCall
  simp only [hs, hk, hv]
  repeat (first | (with_reducible refine Looks.at L1 ?_) | (with_reducible refine Looks.at L2 ?_) | (with_reducible refine Looks.at L3 ?_) | (with_reducible refine ks_wpAny_isType_inst hx hnc ?_) | wp_step)
  rw [hod]
  refine wpAny_pure (wpAny_bind (Looks.at L3 ?_))
  rw [if_pos (by decide), hq]
  exact wpAny_of_eq hc q
theorem type_pop (s' : Shared) : s'.TypeIs (.builtin "list.pop") "method_descriptor" := by show builtinType _ = _; rw [builtinType_eq_fast]; kernel_rfl

theorem entry_pop : entryFor table "list.pop" = some Builtin.«list.pop» := entryFor_of_tree (by kernel_rfl)
end
end Mine
end -- W14
section -- W15
/-! pop on a line that holds something -/
set_option maxRecDepth 100000
namespace Mine
open PySem PySem.W PySem.Calls PyProof.Rows Builtin
set_option maxHeartbeats 400000
section
variable {w : World} {A : Around} {E : Value → Shared → Prop} {s : Shared} {b : Heap} {mg mb : Str → Option Value} {bm : Addr} {ob : Obj} {env : Env}

theorem Acc.xT {h : Heap} {x dx : Addr} {n : Int} {Ts : List Addr} {ps : List (Str × Str)} (a : Acc w b h x dx n Ts ps) : x ∉ Ts := fun hm => by
  obtain ⟨j, hj⟩ := List.getElem?_of_mem hm
  have h1 : j < ps.length := by rw [← a.len]; exact (List.getElem?_eq_some_iff.mp hj).1
  obtain ⟨t1, t2, o, eo, r, _⟩ := a.tup j x ps[j] hj (List.getElem?_eq_getElem h1)
  obtain ⟨k, ho⟩ := a.at_
  rw [ho] at eo
  cases eo
  exact absurd r (by simp)
theorem Acc.pop {x dx T : Addr} {n : Int} {Ts : List Addr} {ps : List (Str × Str)} {p : Str × Str} (a : Acc w b s.heap x dx n (Ts ++ [T]) (ps ++ [p])) {f : Array Value → Array Value} (hf : f ((Ts ++ [T]).map Value.ref).toArray = (Ts.map Value.ref).toArray)
    : Acc w b (s.heap.update x (Obj.mapSeq f)) x dx n Ts ps := by
  have ne : ∀ c o, c ≠ x → s.heap.get? c = some o → (s.heap.update x (Obj.mapSeq f)).get? c = some o := fun c o h e => (Heap.get?_update_ne _ _ _ _ h).trans e
  have hT : x ∉ Ts := fun h => a.xT (List.mem_append_left _ h)
  obtain ⟨k, ho⟩ := a.at_
  obtain ⟨t, t', k', hd⟩ := a.di
  have hdx : dx ≠ x := fun e => by rw [e, ho] at hd; injection hd with hd; injection hd with _ _ h3 _; exact absurd h3 (by simp)
  have hat : ∃ k, (s.heap.update x (Obj.mapSeq f)).get? x = some ⟨.ref 178, some dx, .seq (Ts.map Value.ref).toArray k, #[]⟩ := by
    rw [Heap.get?_update_self _ ho (by simp [Obj.mapSeq, Obj.isFreed])]
    simp only [Obj.mapSeq]
    rw [hf]
    exact ⟨_, rfl⟩
  refine ⟨hat, ⟨t, t', k', ne _ _ hdx hd⟩, ?_, fun j T' p' e1 e2 => ?_, a.gx, a.gd, fun T' h => a.gT T' (List.mem_append_left _ h), a.fx, a.fd⟩
  · have := a.len
    simpa using this
  · have h1 : j < Ts.length := (List.getElem?_eq_some_iff.mp e1).1
    have h2 : j < ps.length := (List.getElem?_eq_some_iff.mp e2).1
    obtain ⟨t1, t2, o, eo, r⟩ := a.tup j T' p' (by rw [List.getElem?_append_left h1]; exact e1) (by rw [List.getElem?_append_left h2]; exact e2)
    exact ⟨t1, t2, o, ne _ _ (fun q => hT (q ▸ List.mem_of_getElem? e1)) eo, r⟩

theorem acc_pop_snoc {x dx T : Addr} {n : Int} {Ts : List Addr} {ps : List (Str × Str)} {p : Str × Str} {Q : Value → Shared → Prop} (W : WW w b mg mb bm ob) (st : St b s) (hA : A.handled = none) (hD : A.depth < 890) (a : Acc w b s.heap x dx n (Ts ++ [T]) (ps ++ [p]))
    (hsm : ps.length ≤ 1000) (h : ∀ s', Nx b [x] s s' → Acc w b s'.heap x dx n Ts ps → Q (.ref T) s') : wpAny (model PW w) A (call (.ref 138) [.ref x]) Q E s := by
  refine enterAt (f := 138) (binds := [(Str.ofString "self", .ref x)]) W st (Nat.lt_trans hD (by decide)) rfl rfl (by kernel_rfl) (BindsTo.of_eq rfl) (by decide) (locs rfl) (fun A₁ s₁ E' L hA₁ hD₁ _ hL N₁ hLs hns => ?_)
  refine ks_wpAt_execs_cons (ks_wpAt_If (wpAt_of_wpAny (wpAny_isTrue_Compare1 ?_)))
  refine MethodCall_ (nm_loc hns (meth0 (f := 175) W N₁.st (a.nx0 N₁) ?_))
  refine acc_count W N₁.st (hA₁.trans hA) (by omega) (a.nx0 N₁) fun s₂ tk N₂ => ?_
  refine wpAny_Constant_int (PyProof.Rows.eq_int (wpAny_truthy_bool ?_))
  have e0 : (((ps ++ [p]).length : Int) == 0) = false := by simp; omega
  rw [e0]
  show PySem.wpAt _ _ _ _ _ _ _
  refine wpAt_of_wpAny (wpAny_execs_nil ?_)
  have N₃ := (N₁.tr N₂).toks (k := s₂.toks + 1)
  have a₃ := a.nx0 N₃
  show PySem.wpAt _ _ _ _ _ _ _
  refine ks_wpAt_execs_cons (ks_wpAt_Return_some ?_)
  obtain ⟨k, t, t', k', I⟩ := a₃.inst
  have hns₃ := ns_nx hns (N₂.toks (k := s₂.toks + 1)) (by rw [hL]; exact st.lt W)
  refine ks_wpAt_MethodCall (super_base (x := x) (f := 138) W N₃.st hns₃ I rfl rfl rfl rfl rfl rfl rfl (fun s₄ N₄ hso => ?_))
  have a₄ := a₃.nx0 N₄
  obtain ⟨k, t, t', k', I⟩ := a₄.inst
  refine super_meth (id := "list.pop") (kind := "builtin_function_or_method") (td := "method_descriptor") W N₄.st I hso (by kernel_rfl) (by decide +kernel) type_pop slot_md_get entry_md_get (args_md_get _ _ _) (md_get_eq _ _ _ (by decide +kernel)) (not178 a) (by decide) ?_
  have N₅ := (N₄.st |> Nx.push (o := boundObj "builtin_function_or_method" "list.pop" x)).toks (k := s₄.toks + 1)
  have hq : (s₄.heap.push (boundObj "builtin_function_or_method" "list.pop" x)).get? s₄.heap.objs.size = some (boundObj "builtin_function_or_method" "list.pop" x) := Heap.get?_push_at rfl rfl
  have a₅ := a₄.nx0 N₅
  obtain ⟨k, t, t', k', I⟩ := a₅.inst
  refine callWith_bound0 hq (.inr rfl) (call_bound hq (.inr rfl) (by decide +kernel) entry_pop (fun A' Q' E' q => check_pop W N₅.st I q) ?_)
  have hsz : ((Ts ++ [T]).map Value.ref).toArray.size = Ts.length + 1 := by simp
  have hl := a₅.len
  refine list_pop_body (y := .ref T) I.at_ (by rw [hsz]; simp) ?_ ?_
  · have N₆ : Nx b [x] _ _ := Nx.upd (f := Obj.mapSeq fun xs => xs.eraseIdxIfInBounds (((Ts ++ [T]).map Value.ref).toArray.size - 1)) N₅.st a.gx a.fx a₅.nc
    refine ⟨_, rfl, h _ (((N₃.tr N₄).tr N₅).lt0 N₆) (a₅.pop ?_)⟩
    rw [hsz]
    simp [Array.eraseIdxIfInBounds]
    rw [List.eraseIdx_append_of_length_le (by simp)]
    simp
  · rw [hsz]
    have : Ts.length = ps.length := by simpa using hl
    have e : sizeLine = 2 ^ 24 := by decide
    omega
end
end Mine
end -- W15
section -- W16
/-! push -/
set_option maxRecDepth 100000
namespace Mine
open PySem PySem.W PySem.Calls PyProof.Rows Builtin
set_option maxHeartbeats 400000
section
variable {w : World} {A : Around} {E : Value → Shared → Prop} {s : Shared} {b : Heap} {mg mb : Str → Option Value} {bm : Addr} {ob : Obj} {env : Env}

theorem acc_bmeth {x dx : Addr} {n : Int} {Ts : List Addr} {ps : List (Str × Str)} {name : Str} {id ft : String} {pl : Sem Bool} {Q : Value × List Value → Shared → Prop} (W : WW w b mg mb bm ob) (st : St b s) (a : Acc w b s.heap x dx n Ts ps)
    (h : Q (.builtin id, [.ref x]) s) (hf : findIn (KK w) (.ref 178) name = some (some (.builtin id)) := by kernel_rfl) (ht : typeIn (KK w) (.builtin id) = some (.type ft) := by kernel_rfl) (hft : (ft == "function" || ft == "method_descriptor" || ft == "wrapper_descriptor") = true := by decide) (hn : (name == Str.ofString "_initial_size") = false := by decide) :
    wpAny (model PW w) A (getMethod (.ref x) name pl) Q E s := by
  obtain ⟨k, t, t', k', I⟩ := a.inst
  refine lmethod_fn (K := KK w) (st.k W) I (by kernel_rfl) (by kernel_rfl) hf ht hft ?_ h
  show (lookIn name (dictOf _ _)).map _ = _
  rw [lookIn_dict]
  have e : getL name [⟨PyData.keyHash w.params (Str.ofString "_initial_size"), .str (Str.ofString "_initial_size") t', .int n t⟩] = some none := by
    have : (Str.ofString "_initial_size" == name) = false := by rw [Bool.eq_false_iff] at hn ⊢; intro q; exact hn (by rw [beq_iff_eq] at q ⊢; exact q.symm)
    simp [getL, Value.isStr, this]
    rfl
  rw [e]
  rfl

theorem Acc.dxx {h : Heap} {x dx : Addr} {n : Int} {Ts : List Addr} {ps : List (Str × Str)} (a : Acc w b h x dx n Ts ps) : dx ≠ x := fun e => by
  obtain ⟨k, ho⟩ := a.at_
  obtain ⟨t, t', k', hd⟩ := a.di
  rw [e, ho] at hd; injection hd with hd; injection hd with _ _ h3 _; exact absurd h3 (by simp)
theorem Acc.push {x dx T : Addr} {n : Int} {Ts : List Addr} {ps : List (Str × Str)} {p : Str × Str} (a : Acc w b s.heap x dx n Ts ps) (hT : TupAt s.heap T p) (hTx : T ≠ x) (gT : 232 < T) :
    Acc w b (s.heap.update x (Obj.mapSeq (·.push (.ref T)))) x dx n (Ts ++ [T]) (ps ++ [p]) := by
  have ne : ∀ c o, c ≠ x → s.heap.get? c = some o → (s.heap.update x (Obj.mapSeq (·.push (.ref T)))).get? c = some o := fun c o h e => (Heap.get?_update_ne _ _ _ _ h).trans e
  have xT := a.xT
  have hdx := a.dxx
  obtain ⟨k, ho⟩ := a.at_
  obtain ⟨t, t', k', hd⟩ := a.di
  have hat : ∃ k, (s.heap.update x (Obj.mapSeq (·.push (.ref T)))).get? x = some ⟨.ref 178, some dx, .seq ((Ts ++ [T]).map Value.ref).toArray k, #[]⟩ := by
    rw [Heap.get?_update_self _ ho (by simp [Obj.mapSeq, Obj.isFreed])]
    simp only [Obj.mapSeq, List.push_toArray, List.map_append, List.map_cons, List.map_nil]
    exact ⟨_, rfl⟩
  refine ⟨hat, ⟨t, t', k', ne _ _ hdx hd⟩, by simp [a.len], fun j T' p' e1 e2 => ?_, a.gx, a.gd, fun T' h => ?_, a.fx, a.fd⟩
  · have hl := a.len
    by_cases hj : j < Ts.length
    · rw [List.getElem?_append_left hj] at e1
      rw [List.getElem?_append_left (hl ▸ hj)] at e2
      obtain ⟨t1, t2, o, eo, r⟩ := a.tup j T' p' e1 e2
      exact ⟨t1, t2, o, ne _ _ (fun q => xT (q ▸ List.mem_of_getElem? e1)) eo, r⟩
    · rw [List.getElem?_append_right (by omega)] at e1 e2
      have h0 : j - Ts.length = 0 := by
        have := (List.getElem?_eq_some_iff.mp e1).1
        simp at this
        omega
      rw [h0] at e1
      rw [← hl, h0] at e2
      cases e1
      cases e2
      obtain ⟨t1, t2, o, eo, r⟩ := hT
      exact ⟨t1, t2, o, ne _ _ hTx eo, r⟩
  · rcases List.mem_append.mp h with h | h
    · exact a.gT T' h
    · rw [List.mem_singleton.mp h]; exact gT

theorem acc_push {x dx : Addr} {n : Int} {Ts : List Addr} {ps : List (Str × Str)} {f p : Str} {t1 t2 : Tok} {Q : Value → Shared → Prop} (W : WW w b mg mb bm ob) (st : St b s) (hA : A.handled = none) (hD : A.depth < 890) (a : Acc w b s.heap x dx n Ts ps)
    (hsm : ps.length ≤ 1000) (h : ∀ s' T, Nx b [x] s s' → Acc w b s'.heap x dx n (Ts ++ [T]) (ps ++ [(f, p)]) → s.heap.objs.size ≤ T → Q .none s') : wpAny (model PW w) A (call (.ref 122) [.ref x, .str f t1, .str p t2]) Q E s := by
  refine enter (f := 122) (binds := [(Str.ofString "self", .ref x), (Str.ofString "fws", .str f t1), (Str.ofString "string", .str p t2)]) W st (Nat.lt_trans hD (by decide)) rfl rfl (by kernel_rfl) (BindsTo.of_eq rfl) (by decide) (locs rfl) (fun A₁ s₁ E' L hA₁ hD₁ _ hL N₁ hLs hns => ?_)
  refine wpAny_execs_cons (wpAny_Expr_any ?_)
  have a₁ := a.nx0 N₁
  refine MethodCall_ (nm_loc hns (acc_bmeth (id := "list.append") (ft := "method_descriptor") W N₁.st a₁ (PyProof.Rows.callWith_method1 (spliced_more ?_))))
  refine Tuple_ (spliced_more (nm_loc hns (spliced_more (nm_loc hns (spliced_none ?_)))))
  refine wpAny_newObj_type (spliced_none ?_) (by size_fits)
  have N₂ := N₁.st |> Nx.push (o := { cls := .type "tuple", data := .seq [.str f t1, .str p t2].toArray })
  have a₂ := a₁.nx0 N₂
  obtain ⟨k, t, t', k', I⟩ := a₂.inst
  refine call_sub (n := "append") (N₂.st.k W) I (by kernel_rfl) kind_append (by decide +kernel) (by decide +kernel) entry_append (args_append _ _) ?_
  show wpAny _ _ (updateSeq x (·.push _) >>= fun _ => ret .none) _ _ _
  have hsz : ((Ts.map Value.ref).toArray).size = ps.length := by simp [a.len]
  have e : sizeLine = 2 ^ 24 := by decide
  refine wpAny_bind (wpAny_updateSeq (hz := by rw [hsz]; omega) (_hz' := by rw [Array.size_push, hsz]; omega) I.at_ rfl (wpAny_pure ⟨.none, rfl, ?_⟩))
  have N₃ : Nx b [x] _ _ := Nx.upd (f := Obj.mapSeq (·.push (.ref s₁.heap.objs.size))) N₂.st a.gx a.fx a₂.nc
  have hT : TupAt (s₁.heap.push { cls := .type "tuple", data := .seq [.str f t1, .str p t2].toArray }) s₁.heap.objs.size (f, p) := ⟨_, _, _, Heap.get?_push_size _ rfl, rfl, _, rfl⟩
  refine wpAny_execs_nil (h _ _ ((N₁.tr N₂).lt0 N₃) (a₂.push hT (fun q => ?_) ?_) N₁.sz)
  · have := a₁.ltx; rw [← q] at this; exact Nat.lt_irrefl _ this
  · exact N₁.st.lt W
end
end Mine
end -- W16
section -- W17
/-! setting _initial_size -/
set_option maxRecDepth 100000
namespace Mine
open PySem PySem.W PySem.Calls PyProof.Rows Builtin Builtin.ObjectAttr
set_option maxHeartbeats 400000
section
variable {w : World} {A : Around} {E : Value → Shared → Prop} {s : Shared} {b : Heap} {mg mb : Str → Option Value} {bm : Addr} {ob : Obj} {env : Env}

theorem refuse_list (x : Addr) : refuseLoop (.ref x) "__setattr__" [.ref 178, .type "list", .type "object"] = pure () := by
  rw [refuseLoop_ref]; kernel_rfl

theorem acc_osa {x dx : Addr} {n' : Int} {t0 tk : Tok} {its : Array Value} {k k' : Nat} {es : List DictEntry} {R : Result → Shared → Prop} (W : WW w b mg mb bm ob) (st : St b s)
    (hx : s.heap.get? x = some ⟨.ref 178, some dx, .seq its k, #[]⟩) (hd : s.heap.get? dx = some (dictOf es k')) (hr : aRefKeyMayBeTheName (Str.ofString "_initial_size") es.toArray = false) {es' : Tok → Array DictEntry} {k'' : Nat}
    (ho' : ∀ tk, Obj.putName (Str.ofString "_initial_size") (PyData.keyHash w.params (Str.ofString "_initial_size")) (.str (Str.ofString "_initial_size") tk) (.int n' t0) (dictOf es k') = ⟨.type "dict", none, .dict (es' tk) k'', #[]⟩) (hsz : ∀ tk, (es' tk).size ≤ 10)
    (h : ∀ tk, R (.ok (.ret .none)) { s with heap := s.heap.update dx (Obj.putName (Str.ofString "_initial_size") (PyData.keyHash w.params (Str.ofString "_initial_size")) (.str (Str.ofString "_initial_size") tk) (.int n' t0)), toks := s.toks + 1 }) :
    codeAny (model PW w) A (.call (.builtin "object.__setattr__") ⟨[.ref x, .str (Str.ofString "_initial_size") tk, .int n' t0], []⟩) R s := by
  have SF := PySem.F.store_object
  have X := st.k W
  have I : InstAt s.heap x ⟨.ref 178, some dx, .seq its k, #[]⟩ 178 (some (dictOf es k')) := ⟨hx, rfl, rfl, hd⟩
  obtain ⟨cd, hc, hmro, hdct⟩ : ∃ cd, clsIn (KK w) 178 = some cd ∧ cd.mro = [.ref 178, .type "list", .type "object"] ∧ cd.hasDict = true := ⟨_, rfl, rfl, rfl⟩
  have sub : Looks (model PW w) s.heap (isInstance (.ref x) (.type "object")) true := I.type.andThen (looks_mroIn X (by kernel_rfl))
  refine codeAny_call_builtin SF.slot.plain SF.entry (@check_slot (model PW w) _ _ s "object.__setattr__" "object" "__setattr__" (.ref x) [.str _ tk, .int n' t0] [] _ SF.kind SF.split sub (SF.args (.ref x) (.str _ tk) _) ?_)
  have hm : Looks (model PW w) s.heap (mroOf (.ref 178)) cd.mro := (looks_clsIn X hc).andThen .now
  have ha : findIn (KK w) (.ref 178) (Str.ofString "_initial_size") = some none := by kernel_rfl
  rw [osa_eq, refuse_eq]
  refine wpAny_bind (wpAny_bind (I.type.here (wpAny_bind (hm.here ?_))))
  rw [hmro, refuse_list]
  refine wpAny_pure (wpAny_bind (I.type.here (wpAny_bind ((looks_findIn X ha).here (wpAny_bind (wpAny_pure (a := none) ?_))))))
  dsimp only
  refine wpAny_bind (wpAny_pure (wpAny_bind (wpAny_bind (wpAny_loadPart hx (wpAny_bind ((looks_clsIn X hc).here ?_))))))
  rw [hdct]
  refine wpAny_pure (a := some dx) (wpAny_bind (wpAny_pure (wpAny_bind ?_)))
  unfold nsSet
  refine wpAny_bind (wpAny_bind (wpAny_askSetting (wpAny_pure (wpAny_bind (wpAny_mkText (wpAny_bind (wpAny_loadPart hd ?_)))))))
  show wpAny _ _ (if aRefKeyMayBeTheName (Str.ofString "_initial_size") es.toArray = true then _ else _) _ _ _
  rw [if_neg (by rw [hr]; exact Bool.false_ne_true)]
  refine wpAny_updatePart hd ?_
  have e0 := ho' s.toks
  have e1 : (s.heap.update dx (Obj.putName (Str.ofString "_initial_size") (PyData.keyHash w.params (Str.ofString "_initial_size")) (.str (Str.ofString "_initial_size") s.toks) (.int n' t0))).get? dx = some ⟨.type "dict", none, .dict (es' s.toks) k'', #[]⟩ := by
    rw [← e0]; exact Heap.get?_update_self _ hd (by rw [e0]; rfl)
  have z := sizeLine_eq
  refine wpAny_bind (wpAny_lookBehind e1 (pastItsLine_dict (by have := hsz s.toks; omega)) ?_)
  exact wpAny_pure (h _)
theorem Acc.setn {x dx : Addr} {n n' : Int} {t0 tk : Tok} {Ts : List Addr} {ps : List (Str × Str)} (a : Acc w b s.heap x dx n Ts ps) :
    Acc w b (s.heap.update dx (Obj.putName (Str.ofString "_initial_size") (PyData.keyHash w.params (Str.ofString "_initial_size")) (.str (Str.ofString "_initial_size") tk) (.int n' t0))) x dx n' Ts ps := by
  have ne : ∀ c o, c ≠ dx → s.heap.get? c = some o → (s.heap.update dx (Obj.putName (Str.ofString "_initial_size") (PyData.keyHash w.params (Str.ofString "_initial_size")) (.str (Str.ofString "_initial_size") tk) (.int n' t0))).get? c = some o := fun c o h e => (Heap.get?_update_ne _ _ _ _ h).trans e
  have hdx := a.dxx
  obtain ⟨k, ho⟩ := a.at_
  obtain ⟨t, t', k', hd⟩ := a.di
  have dT : ∀ T, (∃ p, TupAt s.heap T p) → T ≠ dx := fun T hT q => by
    obtain ⟨p, t1, t2, o, eo, r, _⟩ := hT
    rw [q, hd] at eo
    cases eo
    exact absurd r (by simp [dictOf])
  refine ⟨⟨k, ne _ _ (Ne.symm hdx) ho⟩, ⟨t0, t', k', ?_⟩, a.len, fun j T' p' e1 e2 => ?_, a.gx, a.gd, a.gT, a.fx, a.fd⟩
  · rw [Heap.get?_update_self _ hd (by rw [putName_dict]; rfl), putName_dict]
    rfl
  · have hT := a.tup j T' p' e1 e2
    have hne := dT T' ⟨_, hT⟩
    obtain ⟨t1, t2, o, eo, r⟩ := hT
    exact ⟨t1, t2, o, ne _ _ hne eo, r⟩

theorem acc_setn {x dx : Addr} {n n' : Int} {t0 : Tok} {Ts : List Addr} {ps : List (Str × Str)} {Q : Unit → Shared → Prop} (W : WW w b mg mb bm ob) (st : St b s) (a : Acc w b s.heap x dx n Ts ps)
    (h : ∀ s', Nx b [dx] s s' → Acc w b s'.heap x dx n' Ts ps → Q () s') : wpAny (model PW w) A (setAttr (.ref x) (Str.ofString "_initial_size") (.int n' t0)) Q E s := by
  obtain ⟨k, t, t', k', I⟩ := a.inst
  obtain ⟨k, ho⟩ := a.at_
  obtain ⟨t, t', k', hd⟩ := a.di
  refine set_plain (K := KK w) (st.k W) I (by kernel_rfl) ?_
  refine acc_osa (s := { s with toks := s.toks + 1 }) (es' := fun tk => #[⟨PyData.keyHash w.params (Str.ofString "_initial_size"), .str (Str.ofString "_initial_size") t', .int n' t0⟩]) (k'' := k') W st.toks ho hd rfl (fun tk => by rw [putName_dict]; rfl) (fun _ => by simp) fun tk => ?_
  have N : Nx b [dx] _ _ := Nx.upd (s := s) (f := Obj.putName (Str.ofString "_initial_size") (PyData.keyHash w.params (Str.ofString "_initial_size")) (.str (Str.ofString "_initial_size") tk) (.int n' t0)) st a.gd a.fd a.ncd
  exact h _ N.toks a.setn
end
end Mine
end -- W17
section -- W18
/-! slices of the list subclass: reading -/
set_option maxRecDepth 100000
namespace Mine
open PySem PySem.W PySem.Calls PyProof.Rows Builtin Builtin.ObjectAttr
set_option maxHeartbeats 400000
section
variable {w : World} {A : Around} {E : Value → Shared → Prop} {s : Shared} {b : Heap} {mg mb : Str → Option Value} {bm : Addr} {ob : Obj} {env : Env}

theorem looks_anyM {M : Model} {h : Heap} {K : Frag} (X : K.In h) : ∀ l : List String, (l.all fun n => mroIn K 178 (.type n) == some false) = true → Looks M h (l.anyM fun n => isSubtype (.ref 178) (.type n)) false
  | [], _ => .now
  | n :: r, e => by
    rw [List.all_cons, Bool.and_eq_true] at e
    have ih := looks_anyM (M := M) X r e.2
    rw [List.anyM_cons]
    exact (looks_mroIn X (beq_iff_eq.mp e.1)).andThen ih

theorem seqKey_acc {x k : Value} {ox : Obj} {odx : Option Obj} {a : Addr} {name : Str} {Q : Value → Shared → Prop} (W : WW w b mg mb bm ob) (st : St b s) (I : InstAt s.heap a ox 178 odx) (h : Q k s) : wpAny (model PW w) A (sequenceKey (.ref a) k name) Q E s := by
  unfold sequenceKey
  refine wpAny_bind (I.type.here ?_)
  dsimp only
  refine wpAny_bind ((looks_anyM (st.k W) _ (by kernel_rfl)).here ?_)
  simp only [Bool.not_false, if_true]
  exact wpAny_pure h

theorem special_b {x : Addr} {ox : Obj} {odx : Option Obj} {name : Str} {id : String} {args : List Value} {Q : Option Value → Shared → Prop} (W : WW w b mg mb bm ob) (st : St b s) (I : InstAt s.heap x ox 178 odx)
    (hf : findIn (KK w) (.ref 178) name = some (some (.builtin id))) (hb : ∀ v, bindSpecial (.builtin id) v = pure (.builtin id, [v])) (h : wpAny (model PW w) A (call (.builtin id) (.ref x :: args)) (fun v => Q (some v)) E s) :
    wpAny (model PW w) A (callSpecial? (.ref x) name args) Q E s := by
  unfold callSpecial?
  refine wpAny_bind (wpAny_bind (I.type.here ((looks_findIn (st.k W) hf).here ?_)))
  dsimp only
  refine wpAny_holding ?_
  rw [hb]
  refine wpAny_bind (wpAny_pure (wpAny_bind ?_))
  exact wpAny_mono h (fun v s' h' => wpAny_pure h') fun _ _ z => z
/-- a special method of the class that is a def -/
theorem special_f {x f : Addr} {ox : Obj} {odx : Option Obj} {name : Str} {args : List Value} {Q : Option Value → Shared → Prop} (W : WW w b mg mb bm ob) (st : St b s) (I : InstAt s.heap x ox 178 odx)
    (hf : findIn (KK w) (.ref 178) name = some (some (.ref f))) (ht : typeIn (KK w) (.ref f) = some (.type "function")) (h : wpAny (model PW w) A (call (.ref f) (.ref x :: args)) (fun v => Q (some v)) E s) :
    wpAny (model PW w) A (callSpecial? (.ref x) name args) Q E s := special_fn (st.k W) I hf ht h

theorem list_getitem_slice_body {C : Value} {dd : Option Addr} {sl : Array (Option Value)} {l p : Addr} {items : Array Value} {n : Nat} {vl vu : Value} {lo hi : Option Int} {M : Model} {Q : Fin → Shared → Prop} (hl : s.heap.get? l = some ⟨C, dd, .seq items n, sl⟩)
    (hs : s.heap.IsSliceOf p vl vu .none) (pl : IsPart vl lo) (pu : IsPart vu hi)
    (h : Q (.done (.ret (.ref s.heap.objs.size))) { s with heap := s.heap.push { cls := .type "list", data := .seq (slicePick items lo hi none) } }) (hsz : items.size ≤ sizeLine := by size_fits) :
    wpAny M A (Builtin.«list.__getitem__» ⟨[.ref l, .ref p], []⟩) Q E s := by
  obtain ⟨os, hos, hcs, hds⟩ := id hs
  have hTs : s.TypeIs (.ref p) "slice" := ⟨os, hos, hcs⟩
  show wpAny _ _ (Builtin.List.listSubscript? (.ref p) >>= _) _ _ s
  refine wpAny_bind ?_
  unfold Builtin.List.listSubscript?
  refine wpAny_bind (wpAny_specialOf hTs slice_no_index ?_)
  simp only [Option.isNone_none, if_true]
  refine wpAny_pure ?_
  show wpAny _ _ (typeOf (.ref p) >>= _) _ _ s
  refine wpAny_bind (wpAny_typeOf hTs ?_)
  rw [if_neg (by decide)]
  rw [listSliceParts_eq]
  refine wpAny_bind (wpAny_bind (wpAny_field hos hds (x := .none) rfl (wpAny_bind (wpAny_listPart .none ?_))))
  rw [if_neg (show ¬ ((rawPart none == rawInt 0) = true) from Bool.false_ne_true)]
  refine wpAny_bind (wpAny_field hos hds (x := vl) rfl (wpAny_bind (wpAny_listPart pl ?_)))
  refine wpAny_bind (wpAny_field hos hds (x := vu) rfl (wpAny_bind (wpAny_listPart pu (wpAny_pure ?_))))
  refine wpAny_bind (m := Builtin.List.listItems (.ref l)) ?_
  unfold Builtin.List.listItems
  refine wpAny_bind (wpAny_seqItems hl rfl (wpAny_pure ?_))
  refine wpAny_bind (wpAny_of_eq (sliceIndices_raw lo hi none items.size (by simp)) ?_)
  exact wpAny_bind (wpAny_newObj_type (wpAny_pure h) (Nat.le_trans (slicePick_size_le items lo hi none) hsz))

theorem getItem_acc_slice {x dx p : Addr} {n : Int} {Ts : List Addr} {ps : List (Str × Str)} {vl vu : Value} {lo hi : Option Int} {Q : Value → Shared → Prop} (W : WW w b mg mb bm ob) (st : St b s) (a : Acc w b s.heap x dx n Ts ps) (hsm : ps.length ≤ 1000)
    (hs : s.heap.IsSliceOf p vl vu .none) (pl : IsPart vl lo) (pu : IsPart vu hi)
    (h : Q (.ref s.heap.objs.size) { s with heap := s.heap.push { cls := .type "list", data := .seq (slicePick (Ts.map Value.ref).toArray lo hi none) } }) :
    wpAny (model PW w) A (getItem (.ref x) (.ref p)) Q E s := by
  obtain ⟨k, t, t', k', I⟩ := a.inst
  unfold getItem
  try with_reducible refine wpAny_holding ?_
  refine wpAny_bind (seqKey_acc (x := .none) W st I ?_)
  have hz : ((Ts.map Value.ref).toArray).size = ps.length := by simp [a.len]
  have e : sizeLine = 2 ^ 24 := by decide
  refine wpAny_bind (special_b W st I (by kernel_rfl) slot_list_getitem.bind ?_)
  refine call_sub (n := "__getitem__") (st.k W) I (by kernel_rfl) (by first | exact .inl (by decide +kernel) | exact .inr (by decide +kernel)) (by decide +kernel) (by decide +kernel) entry_list_getitem (args_list_getitem _ _) ?_
  exact list_getitem_slice_body I.at_ hs pl pu ⟨_, rfl, wpAny_pure h⟩ (by rw [hz]; omega)
end
end Mine
end -- W18
section -- W19
/-! slices of the list subclass: writing -/
set_option maxRecDepth 100000
namespace Mine
open PySem PySem.W PySem.Calls PyProof.Rows Builtin Builtin.ObjectAttr
set_option maxHeartbeats 400000
section
variable {w : World} {A : Around} {E : Value → Shared → Prop} {s : Shared} {b : Heap} {mg mb : Str → Option Value} {bm : Addr} {ob : Obj} {env : Env}

noncomputable def cutIn (items new : Array Value) (lo hi : Option Int) (xs : Array Value) : Array Value :=
  xs.extract 0 (sliceBounds lo hi none items.size).1.toNat ++ new ++ xs.extract (max (sliceBounds lo hi none items.size).1 (sliceBounds lo hi none items.size).2.1).toNat xs.size

theorem ext_le (xs : Array Value) (i j : Nat) : (xs.extract i j).size ≤ xs.size := by rw [Array.size_extract]; exact Nat.le_trans (Nat.sub_le _ _) (Nat.min_le_right _ _)
theorem list_setitem_slice_body {C : Value} {dd : Option Addr} {sl : Array (Option Value)} {l p v : Addr} {items new : Array Value} {n : Nat} {vl vu : Value} {lo hi : Option Int} {M : Model} {Q : Fin → Shared → Prop} (hl : s.heap.get? l = some ⟨C, dd, .seq items n, sl⟩)
    (hv : s.heap.IsList v new) (hne : (l == v) = false)
    (hs : s.heap.IsSliceOf p vl vu .none) (pl : IsPart vl lo) (pu : IsPart vu hi)
    (h : Q (.done (.ret .none)) { s with heap := s.heap.update l (Obj.mapSeq (cutIn items new lo hi)) }) (hsz : items.size + new.size ≤ 10000) :
    wpAny M A (Builtin.«list.__setitem__» ⟨[.ref l, .ref p, .ref v], []⟩) Q E s := by
  obtain ⟨os, hos, hcs, hds⟩ := id hs
  obtain ⟨ov, hov, hcv, nv, hdv⟩ := id hv
  have e0 : sizeLine = 2 ^ 24 := by decide
  have hTs : s.TypeIs (.ref p) "slice" := ⟨os, hos, hcs⟩
  show wpAny _ _ (Builtin.List.listSubscript? (.ref p) >>= _) _ _ s
  refine wpAny_bind ?_
  unfold Builtin.List.listSubscript?
  refine wpAny_bind (wpAny_specialOf hTs slice_no_index ?_)
  simp only [Option.isNone_none, if_true]
  refine wpAny_pure ?_
  show wpAny _ _ (typeOf (.ref p) >>= _) _ _ s
  refine wpAny_bind (wpAny_typeOf hTs ?_)
  rw [if_neg (by decide)]
  rw [listSliceParts_eq]
  refine wpAny_bind (wpAny_bind (wpAny_field hos hds (x := .none) rfl (wpAny_bind (wpAny_listPart .none ?_))))
  rw [if_neg (show ¬ ((rawPart none == rawInt 0) = true) from Bool.false_ne_true)]
  refine wpAny_bind (wpAny_field hos hds (x := vl) rfl (wpAny_bind (wpAny_listPart pl ?_)))
  refine wpAny_bind (wpAny_field hos hds (x := vu) rfl (wpAny_bind (wpAny_listPart pu (wpAny_pure ?_))))
  have same : Builtin.List.listSameRef (.ref l) (.ref v) = false := hne
  rw [same]
  simp only [Bool.false_eq_true, if_false]
  refine wpAny_bind ?_
  unfold Builtin.List.listAllItems
  refine wpAny_bind (wpAny_typeOf (T := "list") ⟨ov, hov, hcv⟩ ?_)
  rw [if_pos (by decide)]
  refine wpAny_bind (wpAny_seqItems hov hdv (wpAny_pure ?_))
  refine wpAny_bind (listItems_at hl rfl ?_)
  refine wpAny_bind (wpAny_of_eq (sliceIndices_raw lo hi none items.size (by simp)) ?_)
  have h1 : (sliceBounds lo hi none items.size).2.2 = 1 := rfl
  rw [h1]
  rw [if_pos (by decide)]
  refine wpAny_bind (wpAny_rule ?_)
  rw [if_neg (by unfold Builtin.List.listTooLong; simp; omega)]
  refine wpAny_bind (listUpdate_at (f := cutIn items new lo hi) hl rfl ?_ (by omega) ?_)
  · exact wpAny_bind (wpAny_letGo (wpAny_pure h))
  · unfold cutIn
    rw [Array.size_append, Array.size_append]
    have h1 := ext_le items 0 (sliceBounds lo hi none items.size).1.toNat
    have h2 := ext_le items (max (sliceBounds lo hi none items.size).1 (sliceBounds lo hi none items.size).2.1).toNat items.size
    exact Nat.le_trans (Nat.add_le_add (Nat.add_le_add_right h1 _) h2) (Nat.le_trans (show items.size + new.size + items.size ≤ 20000 by omega) (by decide))
theorem setItem_acc {x dx p v : Addr} {n : Int} {Ts : List Addr} {ps : List (Str × Str)} {new : Array Value} {vl vu : Value} {lo hi : Option Int} {Q : Unit → Shared → Prop} (W : WW w b mg mb bm ob) (st : St b s) (a : Acc w b s.heap x dx n Ts ps) (hsm : ps.length ≤ 1000) (hnew : new.size ≤ 1000)
    (hv : s.heap.IsList v new) (hs : s.heap.IsSliceOf p vl vu .none) (pl : IsPart vl lo) (pu : IsPart vu hi)
    (h : Q () { s with heap := s.heap.update x (Obj.mapSeq (cutIn (Ts.map Value.ref).toArray new lo hi)) }) :
    wpAny (model PW w) A (setItem (.ref x) (.ref p) (.ref v)) Q E s := by
  obtain ⟨k, t, t', k', I⟩ := a.inst
  have hxv : (x == v) = false := by
    rw [Bool.eq_false_iff]
    intro q
    rw [beq_iff_eq] at q
    obtain ⟨ov, hov, hcv, _⟩ := hv
    obtain ⟨k, ho⟩ := a.at_
    rw [← q, ho] at hov
    cases hov
    exact absurd hcv (by simp)
  unfold setItem
  try with_reducible refine wpAny_holding ?_
  refine wpAny_bind (seqKey_acc (x := .none) W st I ?_)
  have hz : ((Ts.map Value.ref).toArray).size = ps.length := by simp [a.len]
  refine wpAny_bind (special_b W st I (by kernel_rfl) slot_list_setitem.bind ?_)
  refine call_sub (n := "__setitem__") (st.k W) I (by kernel_rfl) (by first | exact .inl (by decide +kernel) | exact .inr (by decide +kernel)) (by decide +kernel) (by decide +kernel) entry_list_setitem (args_list_setitem _ _ _) ?_
  exact list_setitem_slice_body I.at_ hv hxv hs pl pu ⟨_, rfl, wpAny_pure h⟩ (by rw [hz]; omega)

theorem Acc.seq {x dx : Addr} {n : Int} {Ts Ts' : List Addr} {ps ps' : List (Str × Str)} (a : Acc w b s.heap x dx n Ts ps) {f : Array Value → Array Value} (hf : f (Ts.map Value.ref).toArray = (Ts'.map Value.ref).toArray) (hlen : Ts'.length = ps'.length)
    (htup : ∀ (j : Nat) (T : Addr) (p : Str × Str), Ts'[j]? = some T → ps'[j]? = some p → TupAt s.heap T p) (gT : ∀ T ∈ Ts', 232 < T) : Acc w b (s.heap.update x (Obj.mapSeq f)) x dx n Ts' ps' := by
  have ne : ∀ c o, c ≠ x → s.heap.get? c = some o → (s.heap.update x (Obj.mapSeq f)).get? c = some o := fun c o h e => (Heap.get?_update_ne _ _ _ _ h).trans e
  have hdx := a.dxx
  obtain ⟨k, ho⟩ := a.at_
  obtain ⟨t, t', k', hd⟩ := a.di
  have hat : ∃ k, (s.heap.update x (Obj.mapSeq f)).get? x = some ⟨.ref 178, some dx, .seq (Ts'.map Value.ref).toArray k, #[]⟩ := by
    rw [Heap.get?_update_self _ ho (by simp [Obj.mapSeq, Obj.isFreed])]
    simp only [Obj.mapSeq]
    rw [hf]
    exact ⟨_, rfl⟩
  refine ⟨hat, ⟨t, t', k', ne _ _ hdx hd⟩, hlen, fun j T' p' e1 e2 => ?_, a.gx, a.gd, gT, a.fx, a.fd⟩
  obtain ⟨t1, t2, o, eo, r, r'⟩ := htup j T' p' e1 e2
  refine ⟨t1, t2, o, ne _ _ (fun q => ?_) eo, r, r'⟩
  rw [q, ho] at eo
  cases eo
  exact absurd r (by simp)
end
end Mine
end -- W19
section -- W20
/-! storing a local; reset -/
set_option maxRecDepth 100000
namespace Mine
open PySem PySem.W PySem.Calls PyProof.Rows Builtin Builtin.ObjectAttr
set_option maxHeartbeats 400000
section
variable {w : World} {A : Around} {E : Value → Shared → Prop} {s : Shared} {b : Heap} {mg mb : Str → Option Value} {bm : Addr} {ob : Obj} {env : Env}

theorem set_loc {x : Str} {v : Value} {m : Str → Option Value} {Q : Unit → Shared → Prop} (st : St b s) (hns : s.heap.Ns env.locals m) (hL : 232 < env.locals) (fL : b.get? env.locals = none)
    (h : ∀ s', Nx b [env.locals] s s' → s'.heap.Ns env.locals (fun y => if y = x then some v else m y) → Q () s') (hl : env.kindOf x = some .local := by rfl)
    (hp : (env.scope.kind == .class || (env.scope.kind == .module && env.locals != env.globals)) = false := by rfl) : wpAny (model PW w) A (storeName env x v) Q E s := by
  refine wpAny_storeName_local hl hns (fun h' hn hs => h _ ?_ hn) hp
  exact Nx.same st hs hL fL (NC.ns hns)
theorem cutIn_all (items new : Array Value) : cutIn items new none none items = new := by
  unfold cutIn sliceBounds
  simp
theorem acc_reset_to {x dx v : Addr} {n : Int} {Ts Ts' : List Addr} {ps ps' : List (Str × Str)} {Q : Value → Shared → Prop} (W : WW w b mg mb bm ob) (st : St b s) (hA : A.handled = none) (hD : A.depth < 890) (a : Acc w b s.heap x dx n Ts ps)
    (hsm : ps.length ≤ 1000) (hsm' : ps'.length ≤ 1000) (hv : s.heap.IsList v (Ts'.map Value.ref).toArray) (gv : 232 < v) (hlen : Ts'.length = ps'.length) (htup : ∀ (j : Nat) (T : Addr) (p : Str × Str), Ts'[j]? = some T → ps'[j]? = some p → TupAt s.heap T p) (gT : ∀ T ∈ Ts', 232 < T)
    (h : ∀ s', Nx b [x, dx] s s' → Acc w b s'.heap x dx 0 Ts' ps' → Q .none s') : wpAny (model PW w) A (call (.ref 160) [.ref x, .ref v]) Q E s := by
  refine enter (f := 160) (binds := [(Str.ofString "self", .ref x), (Str.ofString "startval", .ref v)]) W st (Nat.lt_trans hD (by decide)) rfl rfl (by kernel_rfl) (binds_K (st.k W) rfl rfl rfl rfl rfl) (by decide) (locs rfl) (fun A₁ s₁ E' L hA₁ hD₁ _ hL N₁ hLs hns => ?_)
  refine wpAny_execs_cons (wpAny_If (wpAny_isTrue_Compare1 ?_))
  refine nm_loc (v := .ref v) hns ?_
  refine wpAny_Constant_none (wpAny_is_other rfl (by simp) (wpAny_truthy_bool ?_))
  rw [if_neg (by decide)]
  refine wpAny_execs_nil ?_
  show wpAny _ _ _ _ _ _
  have a₁ := a.nx0 N₁
  refine wpAny_execs_cons (wpAny_Assign_Subscript ?_)
  refine nm_loc (v := .ref v) hns (nm_loc (v := .ref x) hns (wpAny_Slice ?_))
  rw [evalPart_none]
  refine wpAny_pure (wpAny_pure (wpAny_pure ?_))
  have N₂ := N₁.st |> Nx.push (o := { cls := .type "slice", data := .fields #[.none, .none, .none] })
  have N₁₂ := N₁.tr N₂
  have keep : ∀ c o, 232 < c → s.heap.get? c = some o → _ := fun c o hc e => N₁₂.kp c o (notab_of hc) List.not_mem_nil e
  refine setItem_acc W N₂.st (a₁.nx0 N₂) hsm (new := (Ts'.map Value.ref).toArray) (by simp; omega) ?_ (Heap.IsSliceOf.new ..) .none .none ?_
  · obtain ⟨o, e, r⟩ := hv
    exact ⟨o, keep _ _ gv e, r⟩
  have a₂ := a₁.nx0 N₂
  have N₃ : Nx b [x] _ _ := Nx.upd (f := Obj.mapSeq (cutIn (Ts.map Value.ref).toArray (Ts'.map Value.ref).toArray none none)) N₂.st a.gx a.fx a₂.nc
  have a₃ := a₂.seq (f := cutIn (Ts.map Value.ref).toArray (Ts'.map Value.ref).toArray none none) (cutIn_all _ _) hlen (fun j T p e1 e2 => by
    obtain ⟨t1, t2, o, eo, r⟩ := htup j T p e1 e2
    exact ⟨t1, t2, o, keep _ _ (gT T (List.mem_of_getElem? e1)) eo, r⟩) gT
  show wpAny _ _ _ _ _ _
  refine wpAny_execs_cons (plainObj_wpAny_Assign_Attribute ?_)
  have hns₃ := ns_nx (ns_nx hns N₂ (by rw [hL]; exact st.lt W)) N₃ (by rw [hL]; exact st.lt W) (fun q => by
    have := List.mem_singleton.mp q
    have h1 := a.ltx
    rw [← this, hL] at h1
    exact Nat.lt_irrefl _ h1)
  refine wpAny_Constant_int (nm_loc (v := .ref x) hns₃ ?_)
  refine acc_setn W N₃.st.toks a₃ fun s₄ N₄ a₄ => ?_
  refine wpAny_execs_nil (h _ (((N₁₂.lt0 N₃).toks).trans N₄ (fun c hc => .inl (by simp at hc ⊢; exact .inl hc)) (fun c hc => .inl (by simp at hc ⊢; exact .inr hc))) a₄)

theorem acc_reset {x dx : Addr} {n : Int} {Ts : List Addr} {ps : List (Str × Str)} {Q : Value → Shared → Prop} (W : WW w b mg mb bm ob) (st : St b s) (hA : A.handled = none) (hD : A.depth < 890) (a : Acc w b s.heap x dx n Ts ps)
    (hsm : ps.length ≤ 1000) (h : ∀ s', Nx b [x, dx] s s' → Acc w b s'.heap x dx 0 [] [] → Q .none s') : wpAny (model PW w) A (call (.ref 160) [.ref x]) Q E s := by
  refine enter (f := 160) (binds := [(Str.ofString "self", .ref x), (Str.ofString "startval", .none)]) W st (Nat.lt_trans hD (by decide)) rfl rfl (by kernel_rfl) (binds_K (st.k W) rfl rfl rfl rfl rfl) (by decide) (locs rfl) (fun A₁ s₁ E' L hA₁ hD₁ _ hL N₁ hLs hns => ?_)
  have hL2 : 232 < L := by rw [hL]; exact st.lt W
  have fL : b.get? L = none := st.fresh (Nat.le_of_eq hL.symm)
  refine wpAny_execs_cons (wpAny_If (wpAny_isTrue_Compare1 ?_))
  refine nm_loc (v := .none) hns ?_
  refine wpAny_Constant_none (wpAny_is_self rfl (wpAny_truthy_bool ?_))
  rw [if_pos rfl]
  refine wpAny_execs_cons (wpAny_Assign_Name (List_ (spliced_none (wpAny_newObj_type ?_ (by size_fits)))))
  have N₂ := N₁.st |> Nx.push (o := { cls := .type "list", data := .seq ([] : List Value).toArray })
  have hns₂ := ns_nx hns N₂ hL2
  refine set_loc N₂.st hns₂ hL2 fL fun s₃ N₃ hns₃ => ?_
  show wpAny _ _ _ _ _ _
  refine wpAny_execs_nil ?_
  show wpAny _ _ _ _ _ _
  have N₁₃ : Nx b [L] s s₃ := (N₁.tr N₂).lt0 N₃
  have N₀₃ : Nx b [] s s₃ := N₁₃.mono fun c hc => .inr (by rw [List.mem_singleton.mp hc, hL]; exact Nat.le_refl _)
  have a₃ := a.nx0 N₀₃
  have hv : s₃.heap.IsList s₁.heap.objs.size #[] := ⟨_, N₃.kp _ _ (notab_of (N₁.st.lt W)) (fun q => Nat.ne_of_gt hLs (List.mem_singleton.mp q)) (Heap.get?_push_size _ rfl), rfl, _, rfl⟩
  refine wpAny_execs_cons (wpAny_Assign_Subscript ?_)
  refine nm_loc (v := .ref s₁.heap.objs.size) hns₃ (nm_loc (v := .ref x) hns₃ (wpAny_Slice ?_))
  rw [evalPart_none]
  refine wpAny_pure (wpAny_pure (wpAny_pure ?_))
  have N₄ := N₃.st |> Nx.push (o := { cls := .type "slice", data := .fields #[.none, .none, .none] })
  have a₄ := a₃.nx0 N₄
  refine setItem_acc W N₄.st a₄ hsm (new := #[]) (by simp) (hv.push _) (Heap.IsSliceOf.new ..) .none .none ?_
  have N₅ : Nx b [x] _ _ := Nx.upd (f := Obj.mapSeq (cutIn (Ts.map Value.ref).toArray #[] none none)) N₄.st a.gx a.fx a₄.nc
  have a₅ := a₄.seq (Ts' := []) (ps' := []) (f := cutIn (Ts.map Value.ref).toArray #[] none none) (cutIn_all _ _) rfl (fun j T p e1 e2 => by simp at e1) (fun T hT => by simp at hT)
  show wpAny _ _ _ _ _ _
  refine wpAny_execs_cons (plainObj_wpAny_Assign_Attribute ?_)
  have hns₅ := ns_nx (ns_nx hns₃ N₄ hL2) N₅ hL2 (fun q => by
    have := List.mem_singleton.mp q
    have h1 := a.ltx
    rw [← this] at h1
    exact Nat.lt_irrefl _ (hL ▸ h1))
  refine wpAny_Constant_int (nm_loc (v := .ref x) hns₅ ?_)
  refine acc_setn W N₅.st.toks a₅ fun s₆ N₆ a₆ => ?_
  refine wpAny_execs_nil (h _ ((((N₀₃.tr N₄).lt0 N₅).toks).trans N₆ (fun c hc => .inl (by simp at hc ⊢; exact .inl hc)) (fun c hc => .inl (by simp at hc ⊢; exact .inr hc))) a₆)
end
end Mine
end -- W20
section -- W21
/-! pop_from -/
set_option maxRecDepth 100000
namespace Mine
open PySem PySem.W PySem.Calls PyProof.Rows Builtin Builtin.ObjectAttr
set_option maxHeartbeats 400000
section
variable {w : World} {A : Around} {E : Value → Shared → Prop} {s : Shared} {b : Heap} {mg mb : Str → Option Value} {bm : Addr} {ob : Obj} {env : Env}

theorem sub_slice {value : Expr} {lower upper : Option Expr} {p pos : Pos} {Q : Value → Shared → Prop} (W : WW w b mg mb bm ob)
    (h : wpAny (model PW w) A (eval value env) (fun o s₁ => wpAny (model PW w) A (eval (.Slice lower upper none p) env) (fun i s₂ => (∃ x ox odx, o = .ref x ∧ InstAt s₂.heap x ox 178 odx ∧ St b s₂) ∧ wpAny (model PW w) A (getItem o i) Q E s₂) E s₁) E s)
    (ht : ∀ o r, letTemporaryGo value o r = pure () := by intro _ _; rfl) :
    wpAny (model PW w) A (eval (.Subscript value (.Slice lower upper none p) pos) env) Q E s := by
  rw [eval_Subscript]
  refine wpAny_bind (wpAny_mono h (fun o s₁ h₁ => wpAny_bind (wpAny_holding (wpAny_mono h₁ (fun i s₂ h₂ => wpAny_bind (wpAny_standAt ?_)) fun _ _ x => x))) fun _ _ x => x)
  obtain ⟨⟨x, ox, odx, rfl, I, st⟩, h₂⟩ := h₂
  have fin : wpAny (model PW w) A (operate [i, .ref x] (getItem (.ref x) i)) (fun r s₃ => wpAny (model PW w) A (letTemporaryGo value (.ref x) r >>= fun _ => pure r) Q E s₃) E s₂ :=
    wpAny_operating (wpAny_mono h₂ (fun r s₃ h₃ => wpAny_bind (wpAny_of_eq (ht _ r) (wpAny_pure h₃))) fun _ _ x => x)
  refine wpAny_bind ?_
  unfold getitemInPython
  have L : Looks (model PW w) s₂.heap (specialOf (.ref x) "__getitem__") (some (.builtin "list.__getitem__")) := I.type.andThen (looks_findIn (st.k W) (by kernel_rfl))
  refine wpAny_bind (L.here ?_)
  first
    | exact wpAny_pure (wpAny_bind fin)
    | exact wpAny_bind (wpAny_pure (wpAny_bind fin))
    | exact wpAny_bind fin

theorem pick_drop (items : Array Value) (i : Nat) (h : i ≤ items.size) : slicePick items (some (i : Int)) none none = (items.toList.drop i).toArray := by
  unfold slicePick
  have h1 : (sliceBounds (some (i : Int)) none none items.size).1 = (i : Int) := by simp [sliceBounds]; omega
  have h2 : (sliceBounds (some (i : Int)) none none items.size).2.1 = (items.size : Int) := by simp [sliceBounds]
  have h3 : (sliceBounds (some (i : Int)) none none items.size).2.2 = 1 := rfl
  rw [h1, h2, h3, sliceRange_one, pick_run]
  congr 1
  apply List.take_of_length_le
  simp
theorem cut_take (items : Array Value) (i : Nat) (h : i ≤ items.size) : cutIn items #[] (some (i : Int)) none items = (items.toList.take i).toArray := by
  unfold cutIn
  have h1 : (sliceBounds (some (i : Int)) none none items.size).1 = (i : Int) := by simp [sliceBounds]; omega
  have h2 : (sliceBounds (some (i : Int)) none none items.size).2.1 = (items.size : Int) := by simp [sliceBounds]
  rw [h1, h2]
  have h3 : (max (i : Int) (items.size : Int)).toNat = items.size := by omega
  rw [h3]
  apply Array.toList_inj.mp
  simp
end
end Mine
end -- W21
section -- W22
/-! pop_from -/
set_option maxRecDepth 100000
namespace Mine
open PySem PySem.W PySem.Calls PyProof.Rows Builtin Builtin.ObjectAttr
set_option maxHeartbeats 400000
section
variable {w : World} {A : Around} {E : Value → Shared → Prop} {s : Shared} {b : Heap} {mg mb : Str → Option Value} {bm : Addr} {ob : Obj} {env : Env}

theorem take_get {α : Type} {l : List α} {i j : Nat} {a : α} (h : (l.take i)[j]? = some a) : l[j]? = some a := by
  rw [List.getElem?_take] at h
  split at h
  · exact h
  · cases h
theorem lst_nx {X : List Addr} {s s' : Shared} {v : Addr} {its : Array Value} (hl : s.heap.IsList v its) (N : Nx b X s s') (hv : 232 < v) (hX : v ∉ X := by exact List.not_mem_nil) : s'.heap.IsList v its :=
  let ⟨o, e, r⟩ := hl; ⟨o, N.kp _ _ (notab_of hv) hX e, r⟩

theorem acc_pop_from {x dx : Addr} {n : Int} {i : Nat} {ti : Tok} {Ts : List Addr} {ps : List (Str × Str)} {Q : Value → Shared → Prop} (W : WW w b mg mb bm ob) (st : St b s) (hA : A.handled = none) (hD : A.depth < 890) (a : Acc w b s.heap x dx n Ts ps)
    (hsm : ps.length ≤ 1000) (hi : i ≤ ps.length) (h : ∀ s' v, Nx b [x] s s' → s'.heap.IsList v ((Ts.drop i).map Value.ref).toArray → s.heap.objs.size ≤ v → Acc w b s'.heap x dx n (Ts.take i) (ps.take i) → Q (.ref v) s') :
    wpAny (model PW w) A (call (.ref 130) [.ref x, .int i ti]) Q E s := by
  refine enter (f := 130) (binds := [(Str.ofString "self", .ref x), (Str.ofString "i", .int i ti)]) W st (Nat.lt_trans hD (by decide)) rfl rfl (by kernel_rfl) (binds_K (st.k W) rfl rfl rfl rfl rfl) (by decide) (locs rfl) (fun A₁ s₁ E' L hA₁ hD₁ _ hL N₁ hLs hns => ?_)
  have hL2 : 232 < L := by rw [hL]; exact st.lt W
  have fL : b.get? L = none := st.fresh (Nat.le_of_eq hL.symm)
  have hxL : x < L := by rw [hL]; exact a.ltx
  have hTs : (Ts.map Value.ref).toArray.size = ps.length := by simp [a.len]
  refine wpAny_execs_cons (wpAny_Assign_Name (sub_slice W (nm_loc (v := .ref x) hns (wpAny_Slice ?_))))
  rw [evalPart_some, evalPart_none]
  refine nm_loc (v := .int i ti) hns (wpAny_pure (wpAny_pure ?_))
  have N₂ := N₁.st |> Nx.push (o := { cls := .type "slice", data := .fields #[.int i ti, .none, .none] })
  have a₂ := (a.nx0 N₁).nx0 N₂
  obtain ⟨k, t, t', k', I⟩ := a₂.inst
  refine ⟨⟨x, _, _, rfl, I, N₂.st⟩, getItem_acc_slice W N₂.st a₂ hsm (Heap.IsSliceOf.new ..) (.int _ _) .none ?_⟩
  rw [pick_drop _ _ (by rw [hTs]; exact hi)]
  have N₃ := N₂.st |> Nx.push (o := { cls := .type "list", data := .seq ((Ts.map Value.ref).toArray.toList.drop i).toArray })
  have hns₃ := ns_nx (ns_nx hns N₂ hL2) N₃ hL2
  have N₁₃ := (N₁.tr N₂).tr N₃
  have lt₃ : L < (s₁.heap.push { cls := .type "slice", data := .fields #[.int i ti, .none, .none] }).objs.size := by rw [Heap.size_push]; exact Nat.lt_succ_of_lt hLs
  refine set_loc N₃.st hns₃ hL2 fL fun s₄ N₄ hns₄ => ?_
  show wpAny _ _ _ _ _ _
  refine wpAny_execs_cons (wpAny_Assign_Subscript (List_ (spliced_none (wpAny_newObj_type ?_ (by size_fits)))))
  have N₅ := N₄.st |> Nx.push (o := { cls := .type "list", data := .seq ([] : List Value).toArray })
  have hv5 : (s₄.heap.push { cls := .type "list", data := .seq ([] : List Value).toArray }).IsList s₄.heap.objs.size #[] := ⟨_, Heap.get?_push_size _ rfl, rfl, _, rfl⟩
  have hns₅ := ns_nx hns₄ N₅ hL2
  refine nm_loc (v := .ref x) hns₅ (wpAny_Slice ?_)
  rw [evalPart_some, evalPart_none]
  refine nm_loc (v := .int i ti) hns₅ (wpAny_pure (wpAny_pure ?_))
  have N₆ := N₅.st |> Nx.push (o := { cls := .type "slice", data := .fields #[.int i ti, .none, .none] })
  have N₁₆ : Nx b [L] s _ := ((N₁₃.lt0 N₄).rt0 N₅).rt0 N₆
  have N₀₆ := N₁₆.mono (Z := []) fun c hc => .inr (by rw [List.mem_singleton.mp hc, hL]; exact Nat.le_refl _)
  have a₆ := a.nx0 N₀₆
  refine setItem_acc W N₆.st a₆ hsm (new := #[]) (by simp) (hv5.push _) (Heap.IsSliceOf.new ..) (.int _ _) .none ?_
  have N₇ : Nx b [x] _ _ := Nx.upd (f := Obj.mapSeq (cutIn (Ts.map Value.ref).toArray #[] (some (i : Int)) none)) N₆.st a.gx a.fx a₆.nc
  have a₇ := a₆.seq (Ts' := Ts.take i) (ps' := ps.take i) (f := cutIn (Ts.map Value.ref).toArray #[] (some (i : Int)) none) (by rw [cut_take _ _ (by rw [hTs]; exact hi)]; simp [List.map_take]) (by simp [a.len])
    (fun j T p e1 e2 => a₆.tup j T p (take_get e1) (take_get e2)) (fun T hT => a₆.gT T (List.mem_of_mem_take hT))
  show wpAny _ _ _ _ _ _
  have hns₇ := ns_nx (ns_nx hns₅ N₆ hL2) N₇ hL2 (fun q => Nat.ne_of_gt hxL (List.mem_singleton.mp q))
  refine wpAny_execs_cons (wpAny_Return_some (nm_loc hns₇ ?_))
  have eD : ((Ts.drop i).map Value.ref).toArray = ((Ts.map Value.ref).toArray.toList.drop i).toArray := by simp [List.map_drop]
  have gV : L < (s₁.heap.push { cls := .type "slice", data := .fields #[.int i ti, .none, .none] }).objs.size := lt₃
  have hV := lst_nx (lst_nx (lst_nx (lst_nx (s := { s₁ with heap := (s₁.heap.push { cls := .type "slice", data := .fields #[.int i ti, .none, .none] }).push { cls := .type "list", data := .seq ((Ts.map Value.ref).toArray.toList.drop i).toArray } })
    (v := (s₁.heap.push { cls := .type "slice", data := .fields #[.int i ti, .none, .none] }).objs.size) (its := ((Ts.drop i).map Value.ref).toArray)
    (by rw [eD]; exact ⟨_, Heap.get?_push_size _ rfl, rfl, _, rfl⟩) N₄ (Nat.lt_trans hL2 gV) (fun q => Nat.ne_of_gt gV (List.mem_singleton.mp q))) N₅ (Nat.lt_trans hL2 gV)) N₆ (Nat.lt_trans hL2 gV)) N₇ (Nat.lt_trans hL2 gV) (fun q => Nat.ne_of_gt (Nat.lt_trans hxL gV) (List.mem_singleton.mp q))
  exact h _ _ (N₀₆.lt0 N₇) hV (Nat.le_of_lt (by rw [← hL]; exact gV)) a₇
end
end Mine
end -- W22
section -- W23
/-! len(x) and str(x) of an accumulator -/
set_option maxRecDepth 100000
namespace Mine
open PySem PySem.W PySem.Calls PyProof.Rows Builtin Builtin.ObjectAttr
set_option maxHeartbeats 400000
section
variable {w : World} {A : Around} {E : Value → Shared → Prop} {s : Shared} {b : Heap} {mg mb : Str → Option Value} {bm : Addr} {ob : Obj} {env : Env}

theorem len_acc {x dx : Addr} {n : Int} {Ts : List Addr} {ps : List (Str × Str)} {Q : Value → Shared → Prop} (W : WW w b mg mb bm ob) (st : St b s) (hA : A.handled = none) (hD : A.depth < 890) (a : Acc w b s.heap x dx n Ts ps) (sm : Small n ps)
    (h : ∀ s' tk, Nx b [] s s' → Q (.int (n + plen ps) tk) s') : wpAny (model PW w) A (call (.builtin "len") [.ref x]) Q E s := by
  obtain ⟨k, t, t', k', I⟩ := a.inst
  refine call_function_entry kind_len plain_len entry_len (args_len1 _) ?_
  unfold Builtin.«len»
  refine wpAny_bind (m := oneArg "len" _) (wpAny_pure ?_)
  refine wpAny_bind (m := callSpecial? (.ref x) (Str.ofString "__len__")) (special_f (f := 145) W st I (by kernel_rfl) (by kernel_rfl) ?_)
  refine acc_len W st hA (Nat.lt_trans hD (by decide)) a sm fun s' tk N => ?_
  have hb := plen_bound ps sm.2.2.2
  have h0 := sm.1
  have h1 := sm.2.1
  have h2 := sm.2.2.1
  refine wpAny_bind (wpAny_holding (wpAny_pure ?_))
  refine wpAny_bind (wpAny_letGo ?_)
  show wpAny _ _ (if (n + plen ps : Int) < 0 then _ else _) _ _ _
  rw [if_neg (by omega)]
  show wpAny _ _ (if (n + plen ps : Int) ≥ 2 ^ 63 then _ else _) _ _ _
  rw [if_neg (by omega)]
  exact wpAny_bind (wpAny_mkInt (wpAny_pure ⟨_, rfl, h _ _ N.toks⟩))

theorem str_acc {x dx : Addr} {n : Int} {Ts : List Addr} {ps : List (Str × Str)} {Q : Value → Shared → Prop} (W : WW w b mg mb bm ob) (st : St b s) (hA : A.handled = none) (hD : A.depth < 890) (hu : A.units + 2 < cLine) (a : Acc w b s.heap x dx n Ts ps) (sm : Small n ps)
    (h : ∀ s' tk, Nx b [] s s' → Q (.str (ptext ps) tk) s') : wpAny (model PW w) A (call (.type "str") [.ref x]) Q E s := by
  obtain ⟨k, t, t', k', I⟩ := a.inst
  refine kso_call (f := 152) hu (st.k W) I (by kernel_rfl) (by kernel_rfl) ?_
  exact acc_str W st hA (Nat.lt_trans hD (by decide)) a sm fun s' tk N => h s' tk N
end
end Mine
end -- W23
section -- W24
/-! the value formatter: its facts, its attributes and methods -/
set_option maxRecDepth 100000
namespace Mine
open PySem PySem.W PySem.Calls PyProof.Rows Builtin Builtin.ObjectAttr
set_option maxHeartbeats 400000

noncomputable def vfEntry (w : World) (name : String) (t : Tok) (v : Value) : DictEntry := ⟨PyData.keyHash w.params (Str.ofString name), .str (Str.ofString name) t, v⟩
noncomputable def vfDict (w : World) (t1 t2 t3 t4 t5 t6 u1 u2 u3 u4 : Tok) (mx : Int) (ln x : Addr) : List DictEntry :=
  [vfEntry w "_maxlen" t1 (.int mx u1), vfEntry w "_continuation_ws" t2 (.str (Str.ofString "\t") u2), vfEntry w "_continuation_ws_len" t3 (.int 1 u3), vfEntry w "_splitchars" t4 (.str (Str.ofString " ") u4), vfEntry w "_lines" t5 (.ref ln), vfEntry w "_current_line" t6 (.ref x)]
/-- a _ValueFormatter v with its dict dv, the list ln of its rows, the line x -/
structure VF (w : World) (b h : Heap) (v dv ln x : Addr) (mx : Int) (rows : List Str) : Prop where
  at_ : h.get? v = some ⟨.ref 94, some dv, .plain, #[]⟩
  di : ∃ t1 t2 t3 t4 t5 t6 u1 u2 u3 u4 k, h.get? dv = some (dictOf (vfDict w t1 t2 t3 t4 t5 t6 u1 u2 u3 u4 mx ln x) k)
  ls : ∃ its, PlainL h ln its ∧ StrsAre its.toList rows
  gv : 232 < v
  gd : 232 < dv
  gl : 232 < ln
  fl : b.get? ln = none

section
variable {w : World} {A : Around} {E : Value → Shared → Prop} {s : Shared} {b : Heap} {mg mb : Str → Option Value} {bm : Addr} {ob : Obj} {env : Env}

theorem VF.nx {X : List Addr} {s s' : Shared} {v dv ln x : Addr} {mx : Int} {rows : List Str} (f : VF w b s.heap v dv ln x mx rows) (N : Nx b X s s') (h1 : v ∉ X) (h2 : dv ∉ X) (h3 : ln ∉ X) : VF w b s'.heap v dv ln x mx rows where
  at_ := N.kp _ _ (notab_of f.gv) h1 f.at_
  di := by obtain ⟨t1, t2, t3, t4, t5, t6, u1, u2, u3, u4, k, e⟩ := f.di; exact ⟨t1, t2, t3, t4, t5, t6, u1, u2, u3, u4, k, N.kp _ _ (notab_of f.gd) h2 e⟩
  ls := by obtain ⟨its, ⟨o, n, e, r⟩, q⟩ := f.ls; exact ⟨its, ⟨o, n, N.kp _ _ (notab_of f.gl) h3 e, r⟩, q⟩
  gv := f.gv
  gd := f.gd
  gl := f.gl
  fl := f.fl

theorem vf_get {v dv ln x : Addr} {mx : Int} {rows : List Str} {name : Str} {r : Value} {ex : Bool} {Q : Value → Shared → Prop} (W : WW w b mg mb bm ob) (st : St b s) (f : VF w b s.heap v dv ln x mx rows)
    (hl : ∀ t1 t2 t3 t4 t5 t6 u1 u2 u3 u4, ∃ r', getL name (vfDict w t1 t2 t3 t4 t5 t6 u1 u2 u3 u4 mx ln x) = some (some r') ∧ handedIn r' = true ∧ (Q r' { s with toks := s.toks + 1 }))
    (ha : findIn (KK w) (.ref 94) name = some none := by kernel_rfl) : wpAny (model PW w) A (getAttr (.ref v) name ex) Q E s := by
  obtain ⟨t1, t2, t3, t4, t5, t6, u1, u2, u3, u4, k, e⟩ := f.di
  obtain ⟨r', h1, h2, h3⟩ := hl t1 t2 t3 t4 t5 t6 u1 u2 u3 u4
  exact get_value (K := KK w) (C := 94) (st.k W) ⟨f.at_, rfl, rfl, e⟩ (by kernel_rfl) (findObj_own (attr := none) (by kernel_rfl) ha rfl (by rw [lookIn_dict]; exact h1)) h2 h3

theorem vf_line {v dv ln x : Addr} {mx : Int} {rows : List Str} {ex : Bool} {Q : Value → Shared → Prop} (W : WW w b mg mb bm ob) (st : St b s) (f : VF w b s.heap v dv ln x mx rows) (h : Q (.ref x) { s with toks := s.toks + 1 }) :
    wpAny (model PW w) A (getAttr (.ref v) (Str.ofString "_current_line") ex) Q E s := vf_get (r := .none) W st f fun _ _ _ _ _ _ _ _ _ _ => ⟨_, rfl, rfl, h⟩
theorem vf_lines {v dv ln x : Addr} {mx : Int} {rows : List Str} {ex : Bool} {Q : Value → Shared → Prop} (W : WW w b mg mb bm ob) (st : St b s) (f : VF w b s.heap v dv ln x mx rows) (h : Q (.ref ln) { s with toks := s.toks + 1 }) :
    wpAny (model PW w) A (getAttr (.ref v) (Str.ofString "_lines") ex) Q E s := vf_get (r := .none) W st f fun _ _ _ _ _ _ _ _ _ _ => ⟨_, rfl, rfl, h⟩
theorem vf_maxlen {v dv ln x : Addr} {mx : Int} {rows : List Str} {ex : Bool} {Q : Value → Shared → Prop} (W : WW w b mg mb bm ob) (st : St b s) (f : VF w b s.heap v dv ln x mx rows) (h : ∀ t, Q (.int mx t) { s with toks := s.toks + 1 }) :
    wpAny (model PW w) A (getAttr (.ref v) (Str.ofString "_maxlen") ex) Q E s := vf_get (r := .none) W st f fun _ _ _ _ _ _ _ _ _ _ => ⟨_, rfl, rfl, h _⟩
theorem vf_split {v dv ln x : Addr} {mx : Int} {rows : List Str} {ex : Bool} {Q : Value → Shared → Prop} (W : WW w b mg mb bm ob) (st : St b s) (f : VF w b s.heap v dv ln x mx rows) (h : ∀ t, Q (.str (Str.ofString " ") t) { s with toks := s.toks + 1 }) :
    wpAny (model PW w) A (getAttr (.ref v) (Str.ofString "_splitchars") ex) Q E s := vf_get (r := .none) W st f fun _ _ _ _ _ _ _ _ _ _ => ⟨_, rfl, rfl, h _⟩
end
end Mine
end -- W24
section -- W25
/-! _append_chunk where the word fits -/
set_option maxRecDepth 100000
namespace Mine
open PySem PySem.W PySem.Calls PyProof.Rows Builtin Builtin.ObjectAttr
set_option maxHeartbeats 400000
section
variable {w : World} {A : Around} {E : Value → Shared → Prop} {s : Shared} {b : Heap} {mg mb : Str → Option Value} {bm : Addr} {ob : Obj} {env : Env}

theorem append_fit {v dv ln x dx : Addr} {mx n : Int} {rows : List Str} {Ts : List Addr} {ps : List (Str × Str)} {f p : Str} {t1 t2 : Tok} {Q : Value → Shared → Prop} (W : WW w b mg mb bm ob) (st : St b s) (hA : A.handled = none) (hD : A.depth < 800)
    (F : VF w b s.heap v dv ln x mx rows) (a : Acc w b s.heap x dx n Ts ps) (hvx : v ≠ x) (hdx : dv ≠ x) (hlx : ln ≠ x) (sm : Small n (ps ++ [(f, p)])) (hfit : n + plen (ps ++ [(f, p)]) ≤ mx)
    (h : ∀ s' T, Nx b [x] s s' → Acc w b s'.heap x dx n (Ts ++ [T]) (ps ++ [(f, p)]) → Q .none s') : wpAny (model PW w) A (call (.ref 91) [.ref v, .str f t1, .str p t2]) Q E s := by
  refine enter (f := 91) (binds := [(Str.ofString "self", .ref v), (Str.ofString "fws", .str f t1), (Str.ofString "string", .str p t2)]) W st (Nat.lt_trans hD (by decide)) rfl rfl (by kernel_rfl) (BindsTo.of_eq rfl) (by decide) (locs rfl) (fun A₁ s₁ E' L hA₁ hD₁ _ hL N₁ hLs hns => ?_)
  have hL2 : 232 < L := by rw [hL]; exact st.lt W
  have hxL : x < L := by rw [hL]; exact a.ltx
  have F₁ := F.nx N₁ List.not_mem_nil List.not_mem_nil List.not_mem_nil
  have a₁ := a.nx0 N₁
  have hsm : ps.length ≤ 1000 := by have := sm.2.2.1; simp at this; omega
  refine wpAny_execs_cons (wpAny_Expr_any ?_)
  refine MethodCall_ (Attribute_name (nm_loc (v := .ref v) hns (vf_line W N₁.st F₁ ?_)))
  refine meth1 (f := 122) W N₁.st.toks a₁ ?_
  refine spliced_more (nm_loc (v := .str f t1) hns (spliced_more (nm_loc (v := .str p t2) hns (spliced_none ⟨N₁.st.toks, ?_⟩))))
  refine acc_push W N₁.st.toks (hA₁.trans hA) (by omega) a₁ hsm fun s₂ T N₂ a₂ hT => ?_
  have N₁₂ : Nx b [x] s s₂ := N₁.toks.lt0 N₂
  have nx : ∀ c, c ≠ x → c ∉ [x] := fun c h q => h (List.mem_singleton.mp q)
  have F₂ := F.nx N₁₂ (nx _ hvx) (nx _ hdx) (nx _ hlx)
  have hns₂ := ns_nx (s := { s₁ with toks := s₁.toks + 1 }) hns N₂ hL2 (nx _ (Nat.ne_of_gt hxL))
  show wpAny _ _ _ _ _ _
  refine wpAny_execs_cons (wpAny_If (wpAny_isTrue_Compare1 ?_))
  refine Call_ (nm_bi W N₂.st rfl ?_)
  refine PyProof.Rows.callWith_builtin1 (spliced_more (Attribute_name (nm_loc (v := .ref v) hns₂ (vf_line W N₂.st F₂ (spliced_none ?_)))))
  refine len_acc W N₂.st.toks (hA₁.trans hA) (by omega) a₂ sm fun s₃ tk N₃ => ?_
  have F₃ := VF.nx (s := { s₂ with toks := s₂.toks + 1 }) F₂ N₃ List.not_mem_nil List.not_mem_nil List.not_mem_nil
  have hns₃ := ns_nx (s := { s₂ with toks := s₂.toks + 1 }) hns₂ N₃ hL2
  refine Attribute_name (nm_loc (v := .ref v) hns₃ (vf_maxlen W N₃.st F₃ fun tm => ?_))
  refine PyProof.Rows.gt_int (wpAny_truthy_bool ?_)
  rw [if_neg (by simp; omega)]
  refine wpAny_execs_nil ?_
  show wpAny _ _ _ _ _ _
  exact wpAny_execs_nil (h _ T (N₁₂.toks.rt0 N₃).toks (Acc.nx0 (s := { s₂ with toks := s₂.toks + 1 }) a₂ N₃.toks))
end
end Mine
end -- W25
section -- W26
/-! is_onlyws where the initial size is not 0 -/
set_option maxRecDepth 100000
namespace Mine
open PySem PySem.W PySem.Calls PyProof.Rows Builtin Builtin.ObjectAttr
set_option maxHeartbeats 400000
section
variable {w : World} {A : Around} {E : Value → Shared → Prop} {s : Shared} {b : Heap} {mg mb : Str → Option Value} {bm : Addr} {ob : Obj} {env : Env}

theorem acc_onlyws {x dx : Addr} {n : Int} {Ts : List Addr} {ps : List (Str × Str)} {Q : Value → Shared → Prop} (W : WW w b mg mb bm ob) (st : St b s) (hA : A.handled = none) (hD : A.depth < 890) (a : Acc w b s.heap x dx n Ts ps) (hn : n ≠ 0)
    (h : ∀ s', Nx b [] s s' → Q (.bool false) s') : wpAny (model PW w) A (call (.ref 167) [.ref x]) Q E s := by
  refine enter (f := 167) (binds := [(Str.ofString "self", .ref x)]) W st (Nat.lt_trans hD (by decide)) rfl rfl (by kernel_rfl) (BindsTo.of_eq rfl) (by decide) (locs rfl) (fun A₁ s₁ E' L hA₁ hD₁ _ hL N₁ hLs hns => ?_)
  refine wpAny_execs_cons (wpAny_Return_some (BoolOp_and (wpAny_Compare1 ?_)))
  refine Attribute_name (nm_loc (v := .ref x) hns (acc_getsize W N₁.st (a.nx0 N₁) fun t => ?_))
  refine wpAny_Constant_int (PyProof.Rows.eq_int (wpAny_truthy_bool ?_))
  have e : (n == 0) = false := by simp [hn]
  rw [e]
  simp only [Bool.false_eq_true, if_false]
  exact h _ N₁.toks
end
end Mine
end -- W26
section -- W27
/-! appending to a plain list of one's own; the star call upon a pair; newline -/
set_option maxRecDepth 100000
namespace Mine
open PySem PySem.W PySem.Calls PyProof.Rows Builtin Builtin.ObjectAttr
set_option maxHeartbeats 400000
section
variable {w : World} {A : Around} {E : Value → Shared → Prop} {s : Shared} {b : Heap} {mg mb : Str → Option Value} {bm : Addr} {ob : Obj} {env : Env}

theorem Nx.keepTop {h' : Heap} {tk : Nat} {a : Addr} (st : St b s) (hk : ∀ c o, s.heap.get? c = some o → h'.get? c = some o) (ha : s.heap.objs.size = a + 1) (hl : ∃ o, s.heap.get? a = some o) : Nx b [] s { s with heap := h', toks := tk } :=
  Nx.all st hk rfl rfl rfl (by obtain ⟨o, e⟩ := hl; rw [ha]; exact Heap.lt_size (hk _ _ e))

theorem star_pair {T : Addr} {a : Addr} {f p : Str} {Q : List Value → Shared → Prop} (st : St b s) (hT : TupAt s.heap T (f, p)) (ha : s.heap.objs.size = a + 1) (hl : ∃ o, s.heap.get? a = some o)
    (h : ∀ s' t1 t2, Nx b [] s s' → Q [.str f t1, .str p t2] s') : StarOf (model PW w) A E (.ref T) Q s := by
  obtain ⟨t1, t2, o, ho, hc, n, hd⟩ := hT
  have hTy : s.TypeIs (.ref T) "tuple" := ⟨o, ho, hc⟩
  unfold StarOf notIterableAtAll
  refine wpAny_bind (wpAny_specialOf (r := some (.builtin "tuple.__iter__")) hTy (by rw [typeLookup_type, builtinLookup_eq_fast]; kernel_rfl) ?_)
  simp only [Option.isSome_some, if_true]
  refine wpAny_pure ⟨rfl, wpAny_collect_seq T (.inr rfl) ho hc hd (fun h' hk => ?_) (by simp; decide)⟩
  exact h _ t1 t2 (Nx.keepTop (tk := s.toks) st hk ha hl)
end
end Mine
end -- W27
section -- W28
/-! appending to a plain list of one's own -/
set_option maxRecDepth 100000
namespace Mine
open PySem PySem.W PySem.Calls PyProof.Rows Builtin Builtin.ObjectAttr
set_option maxHeartbeats 400000
section
variable {w : World} {A : Around} {E : Value → Shared → Prop} {s : Shared} {b : Heap} {mg mb : Str → Option Value} {bm : Addr} {ob : Obj} {env : Env}

theorem strsAre_snoc {vs : List Value} {ys : List Str} (h : StrsAre vs ys) (y : Str) (t : Tok) : StrsAre (vs ++ [.str y t]) (ys ++ [y]) := by
  induction h with
  | nil => exact .cons _ _ .nil
  | cons y' t' _ ih => exact .cons _ _ ih

/-- rows.append(text) -/
theorem vf_addrow {v dv ln x : Addr} {mx : Int} {rows : List Str} {y : Str} {t : Tok} {Q : Value → Shared → Prop} (st : St b s) (f : VF w b s.heap v dv ln x mx rows) (hv : v ≠ ln) (hd : dv ≠ ln) (hsz : rows.length ≤ 10000)
    (h : ∀ s', Nx b [ln] s s' → VF w b s'.heap v dv ln x mx (rows ++ [y]) → Q .none s') : wpAny (model PW w) A (call (.builtin "list.append") [.ref ln, .str y t]) Q E s := by
  have e : sizeLine = 2 ^ 24 := by decide
  obtain ⟨its, hl, hr⟩ := id f.ls
  have hlen : its.size = rows.length := by have := StrsAre.len_eq hr; simpa using this
  refine list_append_plainL hl (fun h' hl' hs => ?_) (by omega)
  have N : Nx b [ln] s { s with heap := h', toks := s.toks } := Nx.same st hs f.gl f.fl (let ⟨_, _, e, _, _, d⟩ := hl; NC.seq e d)
  have nv : ∀ c, c ≠ ln → c ∉ [ln] := fun c h q => h (List.mem_singleton.mp q)
  refine h _ N ⟨N.kp _ _ (notab_of f.gv) (nv _ hv) f.at_, ?_, ⟨_, hl', ?_⟩, f.gv, f.gd, f.gl, f.fl⟩
  · obtain ⟨t1, t2, t3, t4, t5, t6, u1, u2, u3, u4, k, e⟩ := f.di
    exact ⟨t1, t2, t3, t4, t5, t6, u1, u2, u3, u4, k, N.kp _ _ (notab_of f.gd) (nv _ hd) e⟩
  · rw [Array.toList_push]
    exact strsAre_snoc hr y t
end
end Mine
end -- W28
section -- W29
/-! newline on an empty line of a size that is not 0 -/
set_option maxRecDepth 100000
namespace Mine
open PySem PySem.W PySem.Calls PyProof.Rows Builtin Builtin.ObjectAttr
set_option maxHeartbeats 800000
section
variable {w : World} {A : Around} {E : Value → Shared → Prop} {s : Shared} {b : Heap} {mg mb : Str → Option Value} {bm : Addr} {ob : Obj} {env : Env}

structure Dis (v dv ln x dx : Addr) : Prop where
  vx : v ≠ x
  dvx : dv ≠ x
  lx : ln ≠ x
  vd : v ≠ dx
  dvd : dv ≠ dx
  ld : ln ≠ dx
  vl : v ≠ ln
  dl : dv ≠ ln
theorem ni {a c : Addr} (h : a ≠ c) : a ∉ [c] := fun q => h (List.mem_singleton.mp q)
theorem ni2 {a c d : Addr} (h : a ≠ c) (h2 : a ≠ d) : a ∉ [c, d] := fun q => by
  rcases List.mem_cons.mp q with q | q
  · exact h q
  · exact h2 (List.mem_singleton.mp q)

theorem ne_pair {T1 T2 : Addr} {f p g q : Str} {Q : Value → Shared → Prop} (h1 : TupAt s.heap T1 (f, p)) (h2 : TupAt s.heap T2 (g, q)) (hu : A.units < cLine) (hne : (f == g) = false)
    (h : Q (.bool true) s) : wpAny (model PW w) A (compareOp .NotEq (.ref T1) (.ref T2)) Q E s := by
  obtain ⟨t1, t2, h1⟩ := h1
  obtain ⟨t3, t4, h2⟩ := h2
  refine EqBoolInt.of_rcne (SeqAt.RcNeAt.tuples (e := fun j => if j = 0 then f == g else p == q) h1 h2 hu (fun j j1 j2 => ?_)) ?_
  · match j, j1 with
    | 0, _ => exact SeqAt.EqAt.str_str _ _ _ _
    | 1, _ => exact SeqAt.EqAt.str_str _ _ _ _
    | j + 2, hj => exact absurd hj (by simp)
  · have e : ((List.range (min (#[Value.str f t1, .str p t2]).size (#[Value.str g t3, .str q t4]).size)).all (fun j => if j = 0 then f == g else p == q)) = false := by
      show ((List.range 2).all _) = false
      simp [List.range_succ, hne]
    rw [e]
    exact h
end
end Mine
end -- W29
section -- W31
/-! a starred method call upon the list subclass -/
set_option maxRecDepth 100000
namespace Mine
open PySem PySem.W PySem.Calls PyProof.Rows Builtin Builtin.ObjectAttr
set_option maxHeartbeats 800000
section
variable {w : World} {A : Around} {E : Value → Shared → Prop} {s : Shared} {b : Heap} {mg mb : Str → Option Value} {bm : Addr} {ob : Obj} {env : Env}

theorem acc_bound {x dx f : Addr} {n : Int} {Ts : List Addr} {ps : List (Str × Str)} {name : Str} {Q : Value → Shared → Prop} {expr : Bool} (W : WW w b mg mb bm ob) (st : St b s) (a : Acc w b s.heap x dx n Ts ps)
    (hfo : ∀ t t' k, findObj (KK w) 178 (some (dictOf [⟨PyData.keyHash w.params (Str.ofString "_initial_size"), .str (Str.ofString "_initial_size") t', .int n t⟩] k)) name = some (.bind (.builtin "function.__get__") (.ref f)))
    (ht : ∃ o, (KK w).lookup f = some o ∧ o.cls = .type "function")
    (h : Q (.ref s.heap.objs.size) { s with heap := s.heap.push (methodObj (.ref f) (.ref x)), toks := s.toks + 1 }) : wpAny (model PW w) A (getAttr (.ref x) name expr) Q E s := by
  obtain ⟨k, t, t', k', I⟩ := a.inst
  have X := st.k W
  have hf := hfo t t' k'
  have hga : findIn (KK w) (.ref 178) "__getattribute__" = some (some (.builtin "list.__getattribute__")) := by kernel_rfl
  have hk : findIn (KK w) (.ref 178) "__getattr__" = some none := by kernel_rfl
  have hm : mroIn (KK w) 178 (.type "list") = some true := by kernel_rfl
  obtain ⟨hh', g, d, tk, os⟩ := s
  have hne : (onTheHeap (.ref 178) && Value.builtin "list.__getattribute__" == Value.builtin "object.__getattribute__") = false := by
    rw [show (Value.builtin "list.__getattribute__" == Value.builtin "object.__getattribute__") = false from by decide +kernel, Bool.and_false]
  have L0 := I.type (M := model PW w)
  have L1 := looks_findIn (M := model PW w) X hga
  have L2 := looks_findIn (M := model PW w) X hk
  have L3 := looks_find (M := model PW w) X I hf
  refine wpAny_bind (wpAny_mkText (wpAny_holding (wpAny_bind (L0.at (wpAny_bind (L1.at ?_))))))
  dsimp only
  rw [hne, if_neg (by decide)]
  refine wpAny_bind (Looks.at (show Looks (model PW w) hh' (hookBefore (.ref 178)) none from L2) (wpAny_bind (wpAny_attempt (wpAny_holding ?_))))
  unfold callGetattribute
  rw [show (expr && onTheHeap (Value.builtin "list.__getattribute__")) = false from Bool.and_false _, if_neg (by decide)]
  unfold boundAndCalled
  rw [slot_list_ga.bind]
  refine wpAny_bind (wpAny_pure ?_)
  show wpAny _ _ (call (.builtin "list.__getattribute__") [.ref x, .str name tk]) _ _ _
  refine wpAny_call ?_
  refine codeAny_call_builtin slot_list_ga.plain entry_list_ga ?_
  refine @check_slot (model PW w) _ _ ⟨hh', g, d, tk + 1, os⟩ "list.__getattribute__" "list" "__getattribute__" (.ref x) [.str name tk] [] _ (by decide +kernel) (by decide +kernel) (L0.andThen (looks_mroIn X hm)) (args_list_ga (.ref x) (.str name tk)) ?_
  have e1 : slotArgs "__getattribute__" 1 ⟨[.ref x, .str name tk], []⟩ = pure (.ref x, [.str name tk]) := rfl
  have e2 : attrName (.str name tk) = pure name := rfl
  unfold Builtin.«object.__getattribute__»
  refine wpAny_bind (wpAny_of_eq e1 ?_)
  refine wpAny_bind (wpAny_of_eq e2 ?_)
  refine wpAny_bind (L0.at ?_)
  refine wpAny_bind (L3.at ?_)
  obtain ⟨of, hof, hofc⟩ := ht
  have hTf : (⟨hh', g, d, tk + 1, os⟩ : Shared).TypeIs (.ref f) "function" := ⟨of, X _ _ hof, hofc⟩
  dsimp only
  unfold bindTo
  refine wpAny_bind (wpAny_holding (wpAny_call_entry F.ks_slot_function_get hTf F.ks_entry_function_get ?_ (F.ks_getArgs_function _ _ _)))
  show wpAny _ _ (newFields "method" [.ref f, .ref x] >>= fun v => ret v) _ _ _
  refine wpAny_bind (wpAny_newObj_type (wpAny_pure ⟨_, rfl, ?_⟩))
  refine wpAny_pure ?_
  show wpAny _ _ (handedOut (.ref _)) _ _ _
  exact wpAny_pure h
end
end Mine
end -- W31
section -- W32
/-! a starred method call -/
set_option maxRecDepth 100000
namespace Mine
open PySem PySem.W PySem.Calls PyProof.Rows Builtin Builtin.ObjectAttr
set_option maxHeartbeats 800000
section
variable {w : World} {A : Around} {E : Value → Shared → Prop} {s : Shared} {b : Heap} {mg mb : Str → Option Value} {bm : Addr} {ob : Obj} {env : Env}

theorem MethodCallStar_ {M : Model} {o e : Expr} {name : Str} {apos pos p : Pos} {Q : Value → Shared → Prop}
    (h : wpAny M A (eval o env) (fun ov s₁ => wpAny M A (getAttr ov name true) (fun f s₂ => wpAny M A (callWith pos f [] (backTo pos (starEach [.Starred e p] env)) []) Q E s₂) E s₁) E s)
    (he : eval (.Call (.Attribute o name apos) [.Starred e p] [] pos) env = (do
      let ov ← eval o env
      standAt apos.atName
      let (f, first) ← holding [ov] (do pure (← getAttr ov name true, []))
      callWith pos f first (backTo pos (starEach [.Starred e p] env)) []) := by rfl) :
    wpAny M A (eval (.Call (.Attribute o name apos) [.Starred e p] [] pos) env) Q E s := by
  rw [he]
  refine wpAny_bind (wpAny_mono h (fun ov s₁ h₁ => wpAny_bind (wpAny_standAt (wpAny_bind (wpAny_holding (wpAny_bind (wpAny_mono h₁ (fun f s₂ h₂ => wpAny_pure ?_) fun _ _ x => x)))))) fun _ _ x => x)
  exact h₂

theorem callWith_MS {q g : Addr} {self : Value} {e : Expr} {pos p : Pos} {Q : Value → Shared → Prop} (hf : fnIn (KK w) g = true)
    (h : wpAny (model PW w) A (eval e env) (fun v s₁ => StarOf (model PW w) A E v (fun vs s₂ => MethP (KK w) q g self s₂.heap ∧ wpAny (model PW w) A (call (.ref q) vs) Q E s₂) s₁) E s)
    (he : starEach [.Starred e p] env = [(true, eval e env)] := by rfl) :
    wpAny (model PW w) A (callWith pos (.ref q) [] (backTo pos (starEach [.Starred e p] env)) []) Q E s := by
  rw [he]
  exact ks_call (first := []) rfl (keeps_M hf) (ks_lone h)
end
end Mine
end -- W32
section -- V0
/-! the heap never shrinks; a weaker Around -/
set_option maxRecDepth 100000
namespace Mine
open PySem PySem.W PySem.Calls PyProof.Rows

theorem runs_size {M : Model} {Γ : Ctx} {p : Pos} {t : Sem PySem.Fin} {fs : List Frame} {s s' : Shared} {e : End} (h : Runs M Γ p t fs s e s') : s.heap.objs.size ≤ s'.heap.objs.size := by
  induction h <;> (try simp only [Shared.setGen, Heap.size_push, Heap.size_after_update] at *) <;> omega
theorem wakes_size {M : Model} {Γ : Ctx} {p : Pos} {g : Nat} {r : Resume} {s s' : Shared} {res : GenResult} (h : Wakes M Γ p g r s res s') : s.heap.objs.size ≤ s'.heap.objs.size := by
  unfold Wakes at h
  split at h
  · exact h.elim
  · split at h
    · obtain ⟨e₁, s₁, hr, _, _, rfl⟩ := h; exact (runs_size hr : (s.setGen g .running).heap.objs.size ≤ s₁.heap.objs.size)
    · rw [h.2]; exact Nat.le_refl _
    · rw [h.2]; exact Nat.le_refl _
  · obtain ⟨e₁, s₁, hr, _, _, rfl⟩ := h; exact (runs_size hr : (s.setGen g .running).heap.objs.size ≤ s₁.heap.objs.size)
  · rw [h.2]; exact Nat.le_refl _
  · rw [h.2]; exact Nat.le_refl _

theorem wp_size {α : Type} (M : Model) (Γ : Ctx) (n : Nat) (t : Sem α) : ∀ (Q : α → Pos → Shared → Prop) (E : Value → Pos → Shared → Prop) (p : Pos) (s : Shared), n ≤ s.heap.objs.size → Sem.wp M Γ t Q E p s →
    Sem.wp M Γ t (fun a p' s' => n ≤ s'.heap.objs.size ∧ Q a p' s') (fun e p' s' => n ≤ s'.heap.objs.size ∧ E e p' s') p s := by
  induction t with
  | pure a => intro Q E p s hn h; exact ⟨hn, h⟩
  | raise e => intro Q E p s hn h; exact ⟨hn, h⟩
  | unsupported _ => intro Q E p s _ h; exact h
  | finish _ => intro Q E p s _ h; exact h
  | rule _ k ih => intro Q E p s hn h; exact ih () Q E p s hn h
  | «at» p' k ih => intro Q E p s hn h; exact ih () Q E p' s hn h
  | load a _ k ih => intro Q E p s hn h; obtain ⟨o, ho, h⟩ := h; exact ⟨o, ho, ih o Q E p s hn h⟩
  | update a _ f k ih => intro Q E p s hn h; exact ⟨h.1, ih () Q E p _ (by simpa using hn) h.2⟩
  | loadIfAlive a k ih => intro Q E p s hn h; exact ih _ Q E p s hn h
  | point _ k ih => intro Q E p s hn h; exact ih () Q E p s hn h
  | register _ _ => intro Q E p s _ h; exact h
  | alloc o k ih => intro Q E p s hn h; exact ih _ Q E p _ (by show n ≤ (s.heap.push o).objs.size; rw [Heap.size_push]; omega) h
  | fresh k ih => intro Q E p s hn h; exact ih _ Q E p _ hn h
  | ask k ih => intro Q E p s hn h; exact ih _ Q E p s hn h
  | choose src m k ih => intro Q E p s hn h; exact ⟨h.1, ih _ Q E p _ hn h.2⟩
  | os q _ k ih => intro Q E p s hn h; exact ih _ Q E p _ hn h
  | call c hd _ _ k ih => intro Q E p s hn h; obtain ⟨r, s', hr, h⟩ := h; exact ⟨r, s', hr, ih r Q E p s' (Nat.le_trans hn (runs_size hr)) h⟩
  | handled own k ih => intro Q E p s hn h; exact ih _ Q E p s hn h
  | genState g k ih => intro Q E p s hn h; obtain ⟨st, hs, h⟩ := h; exact ⟨st, hs, ih _ Q E p s hn h⟩
  | newGen c k ih => intro Q E p s hn h; exact ih _ Q E p _ hn h
  | resume g r _ k ih => intro Q E p s hn h; obtain ⟨res, s', hw, h⟩ := h; exact ⟨res, s', hw, ih res Q E p s' (Nat.le_trans hn (wakes_size hw)) h⟩
  | yield _ _ _ _ => intro Q E p s _ h; exact h
  | stack k ih => intro Q E p s hn h; exact ih _ Q E p s hn h
  | fork _ _ => intro Q E p s _ h; exact h
  | thread k ih => intro Q E p s hn h; exact ih _ Q E p s hn h
  | await _ _ _ _ _ => intro Q E p s _ h; exact h

section
variable {α : Type} {M : Model} {A A' : Around} {s : Shared}
theorem wpAny_size {t : Sem α} {Q : α → Shared → Prop} {E : Value → Shared → Prop} {n : Nat} (hn : n ≤ s.heap.objs.size)
    (h : wpAny M A t (fun a s' => n ≤ s'.heap.objs.size → Q a s') E s) : wpAny M A t Q E s :=
  wpAny_mono (Q := fun a s' => n ≤ s'.heap.objs.size ∧ (n ≤ s'.heap.objs.size → Q a s')) (E := fun e s' => n ≤ s'.heap.objs.size ∧ E e s') (fun Γ p hΓ => wp_size M Γ n t _ _ p s hn (h Γ p hΓ)) (fun _ _ x => x.2 x.1) (fun _ _ x => x.2)

end
end Mine
end -- V0
section -- V1
/-! values that stand, frames of a def, expressions that leave all standing -/
set_option maxRecDepth 100000
namespace Mine
open PySem PySem.W PySem.Calls PyProof.Rows Builtin
set_option maxHeartbeats 400000

noncomputable def Mv (b : Heap) (B : List Addr) (s s' : Shared) : Prop := ∃ X, Nx b X s s' ∧ ∀ a ∈ X, a ∈ B ∨ ∀ o, s.heap.get? a = some o → ∀ its n, o.data ≠ .seq its n
theorem Mv.of0 {b B s s'} (N : Nx b [] s s') : Mv b B s s' := ⟨[], N, fun _ h => nomatch h⟩
theorem Mv.of1 {b B s s' a} (N : Nx b [a] s s') (h : ∀ o, s.heap.get? a = some o → ∀ its n, o.data ≠ .seq its n) : Mv b B s s' := ⟨[a], N, fun c hc => .inr (by rw [List.mem_singleton.mp hc]; exact h)⟩
theorem Mv.ofB {b B s s' a} (N : Nx b [a] s s') (h : a ∈ B) : Mv b B s s' := ⟨[a], N, fun c hc => .inl (by rw [List.mem_singleton.mp hc]; exact h)⟩
theorem Mv.seq {b B s s'} (m : Mv b B s s') {a : Addr} {o : Obj} {its n} (g : 232 < a) (hB : a ∉ B) (e : s.heap.get? a = some o) (hd : o.data = .seq its n) : s'.heap.get? a = some o :=
  let ⟨X, N, V⟩ := m; N.kp a o (notab_of g) (fun h => (V a h).elim hB fun q => q o e its n hd) e

structure VP where
  p : List Addr → Value → Heap → Prop
  st : ∀ {b B s s' v}, Mv b B s s' → p B v s.heap → p B v s'.heap
  ext : ∀ {B h v d}, h.get? d = none → p B v h → p (d :: B) v h
  wk : ∀ {B h v d}, p (d :: B) v h → p B v h

noncomputable def intV (i : Int) : VP := ⟨fun _ v _ => ∃ t, v = .int i t, fun _ h => h, fun _ h => h, fun h => h⟩
noncomputable def strV (x : Str) : VP := ⟨fun _ v _ => ∃ t, v = .str x t, fun _ h => h, fun _ h => h, fun h => h⟩
noncomputable def boolV (x : Bool) : VP := ⟨fun _ v _ => v = .bool x, fun _ h => h, fun _ h => h, fun h => h⟩
noncomputable def noneV : VP := ⟨fun _ v _ => v = .none, fun _ h => h, fun _ h => h, fun h => h⟩
noncomputable def isV (u : Value) : VP := ⟨fun _ v _ => v = u, fun _ h => h, fun _ h => h, fun h => h⟩
noncomputable def AllR (B : List Addr) (h : Heap) : List VP → List Value → Prop
  | [], [] => True
  | P :: Ps, v :: vs => P.p B v h ∧ AllR B h Ps vs
  | _, _ => False
theorem AllR.mp {B B' : List Addr} {h h' : Heap} (f : ∀ (P : VP) v, P.p B v h → P.p B' v h') : ∀ {Ps : List VP} {vs : List Value}, AllR B h Ps vs → AllR B' h' Ps vs
  | [], [], _ => trivial
  | P :: Ps, v :: vs, h => ⟨f P v h.1, AllR.mp f h.2⟩
  | [], _ :: _, h => h.elim
  | _ :: _, [], h => h.elim
theorem AllR.st {b B s s'} (m : Mv b B s s') {Ps : List VP} {vs : List Value} (x : AllR B s.heap Ps vs) : AllR B s'.heap Ps vs := x.mp fun P v h => P.st m h
theorem AllR.len {B : List Addr} {h : Heap} : ∀ {Ps : List VP} {vs : List Value}, AllR B h Ps vs → vs.length = Ps.length
  | [], [], _ => rfl
  | P :: Ps, v :: vs, x => congrArg (· + 1) (AllR.len x.2)
  | [], _ :: _, x => x.elim
  | _ :: _, [], x => x.elim
theorem AllR.get {B : List Addr} {h : Heap} : ∀ {Ps : List VP} {vs : List Value}, AllR B h Ps vs → ∀ {i : Nat} {P : VP}, Ps[i]? = some P → ∃ v, vs[i]? = some v ∧ P.p B v h
  | [], _, _, i, P, e => by simp at e
  | P :: Ps, v :: vs, x, 0, P', e => by simp at e; subst e; exact ⟨v, rfl, x.1⟩
  | P :: Ps, v :: vs, x, i + 1, P', e => by simp at e; obtain ⟨v', e', r⟩ := AllR.get x.2 e; exact ⟨v', by simpa using e', r⟩
  | _ :: _, [], x, _, _, _ => x.elim
theorem AllR.snoc {B : List Addr} {h : Heap} : ∀ {Ps : List VP} {vs : List Value} {P : VP} {v : Value}, AllR B h Ps vs → P.p B v h → AllR B h (Ps ++ [P]) (vs ++ [v])
  | [], [], _, _, _, hv => ⟨hv, trivial⟩
  | P :: Ps, v :: vs, _, _, x, hv => ⟨x.1, AllR.snoc x.2 hv⟩
  | [], _ :: _, _, _, x, _ => x.elim
  | _ :: _, [], _, _, x, _ => x.elim
theorem AllR.ints {B : List Addr} {h : Heap} : ∀ {ns : List Int} {vs : List Value}, AllR B h (ns.map intV) vs → IntsAre vs ns
  | [], [], _ => .nil
  | n :: ns, v :: vs, x => by obtain ⟨t, e⟩ := x.1; subst e; exact .cons n t (AllR.ints x.2)
  | [], _ :: _, x => x.elim
  | _ :: _, [], x => x.elim
theorem AllR.strs {B : List Addr} {h : Heap} : ∀ {ns : List Str} {vs : List Value}, AllR B h (ns.map strV) vs → StrsAre vs ns
  | [], [], _ => .nil
  | n :: ns, v :: vs, x => by obtain ⟨t, e⟩ := x.1; subst e; exact .cons n t (AllR.strs x.2)
  | [], _ :: _, x => x.elim
  | _ :: _, [], x => x.elim
theorem AllR.ofInts {B : List Addr} {h : Heap} {ns : List Int} {vs : List Value} (x : IntsAre vs ns) : AllR B h (ns.map intV) vs := by
  induction x with
  | nil => trivial
  | cons n t _ ih => exact ⟨⟨t, rfl⟩, ih⟩
theorem AllR.ofStrs {B : List Addr} {h : Heap} {ns : List Str} {vs : List Value} (x : StrsAre vs ns) : AllR B h (ns.map strV) vs := by
  induction x with
  | nil => trivial
  | cons n t _ ih => exact ⟨⟨t, rfl⟩, ih⟩
theorem AllR.one {B : List Addr} {h : Heap} {P : VP} {vs : List Value} (x : AllR B h [P] vs) : ∃ v, vs = [v] ∧ P.p B v h := by
  obtain ⟨v, rfl⟩ := len1 (x.len)
  exact ⟨v, rfl, x.1⟩
theorem AllR.two {B : List Addr} {h : Heap} {P P' : VP} {vs : List Value} (x : AllR B h [P, P'] vs) : ∃ v v', vs = [v, v'] ∧ P.p B v h ∧ P'.p B v' h := by
  obtain ⟨v, r, rfl, hr⟩ := lenS (x.len)
  obtain ⟨v', rfl⟩ := len1 hr
  exact ⟨v, v', rfl, x.1, x.2.1⟩

noncomputable def lstV (Ps : List VP) : VP := ⟨fun B v h => ∃ a its, v = .ref a ∧ 232 < a ∧ a ∉ B ∧ h.PlainList a its ∧ AllR B h Ps its.toList,
  fun m ⟨a, its, e, g, hB, ⟨n, hp⟩, r⟩ => ⟨a, its, e, g, hB, ⟨n, m.seq g hB hp rfl⟩, r.st m⟩,
  fun hd ⟨a, its, e, g, hB, ⟨n, hp⟩, r⟩ => ⟨a, its, e, g, fun q => by rcases List.mem_cons.mp q with q | q; (rw [q, hd] at hp; cases hp); exact hB q, ⟨n, hp⟩, r.mp fun P v x => P.ext hd x⟩,
  fun ⟨a, its, e, g, hB, hp, r⟩ => ⟨a, its, e, g, fun q => hB (.tail _ q), hp, r.mp fun P v x => P.wk x⟩⟩
noncomputable def tupV (Ps : List VP) : VP := ⟨fun B v h => ∃ a its, v = .ref a ∧ 232 < a ∧ a ∉ B ∧ h.IsTuple a its ∧ AllR B h Ps its.toList,
  fun m ⟨a, its, e, g, hB, ⟨o, ho, hc, n, hd⟩, r⟩ => ⟨a, its, e, g, hB, ⟨o, m.seq g hB ho hd, hc, n, hd⟩, r.st m⟩,
  fun hd ⟨a, its, e, g, hB, ⟨o, ho, hp⟩, r⟩ => ⟨a, its, e, g, fun q => by rcases List.mem_cons.mp q with q | q; (rw [q, hd] at ho; cases ho); exact hB q, ⟨o, ho, hp⟩, r.mp fun P v x => P.ext hd x⟩,
  fun ⟨a, its, e, g, hB, hp, r⟩ => ⟨a, its, e, g, fun q => hB (.tail _ q), hp, r.mp fun P v x => P.wk x⟩⟩
noncomputable def intsV (ns : List Int) : VP := lstV (ns.map intV)
noncomputable def strsV (ns : List Str) : VP := lstV (ns.map strV)

/-- a variable of the frame -/
noncomputable def HasV (env : Env) (m : Str → Option Value) (h : Heap) (x : Str) (v : Value) : Prop :=
  (env.kindOf x = some .local ∧ m x = some v) ∨ ((env.kindOf x = some .cell ∨ env.kindOf x = some .free) ∧ ∃ c, env.cells.lookup x = some c ∧ 232 < c ∧ h.IsCell c (some v))
structure Fm (b : Heap) (O : List Str) (B : List Addr) (env : Env) (s₀ : Shared) (G : List (Str × VP)) (s : Shared) : Prop where
  nx : Nx b [] s₀ s
  ks : env.scope.kind = .function
  gl : env.globals = mainGlobals
  bl : env.builtins = builtinsNs
  gL : 232 < env.locals
  fL : s₀.heap.objs.size ≤ env.locals
  bf : ∀ a, s₀.heap.objs.size ≤ a → b.get? a = none
  lB : ∀ d ∈ B, d < s.heap.objs.size
  lc : ∀ y c, env.cells.lookup y = some c → c < s.heap.objs.size ∧ 232 < c
  own : ∀ x ∈ O, ∃ c, env.cells.lookup x = some c ∧ s₀.heap.objs.size ≤ c ∧ (∃ v₀, s.heap.IsCell c v₀) ∧ ∀ y, env.cells.lookup y = some c → y = x
  vars : ∃ m, s.heap.Ns env.locals m ∧ ∀ x P, G.lookup x = some P → ∃ v, P.p B v s.heap ∧ HasV env m s.heap x v

section
variable {w : World} {A : Around} {E : Value → Shared → Prop} {s s₀ : Shared} {b : Heap} {mg mb : Str → Option Value} {bm : Addr} {ob : Obj} {env : Env} {G : List (Str × VP)} {B : List Addr} {O : List Str}

theorem Fm.st (F : Fm b O B env s₀ G s) : St b s := F.nx.st
theorem cell_nx {X : List Addr} {s s' : Shared} {c : Addr} {v : Option Value} (x : s.heap.IsCell c v) (N : Nx b X s s') (g : 232 < c) (hX : c ∉ X := by exact List.not_mem_nil) : s'.heap.IsCell c v :=
  let ⟨o, e, r⟩ := x; ⟨o, N.kp _ _ (notab_of g) hX e, r⟩
theorem Fm.lc' {s' : Shared} (F : Fm b O B env s₀ G s) (h : s.heap.objs.size ≤ s'.heap.objs.size) : ∀ y c, env.cells.lookup y = some c → c < s'.heap.objs.size ∧ 232 < c := fun y c e => ⟨Nat.lt_of_lt_of_le (F.lc y c e).1 h, (F.lc y c e).2⟩
theorem Fm.own' {s' : Shared} (F : Fm b O B env s₀ G s) (h : ∀ c v, s.heap.IsCell c v → 232 < c → s'.heap.IsCell c v) : ∀ x ∈ O, ∃ c, env.cells.lookup x = some c ∧ s₀.heap.objs.size ≤ c ∧ (∃ v₀, s'.heap.IsCell c v₀) ∧ ∀ y, env.cells.lookup y = some c → y = x :=
  fun x hx => let ⟨c, hc, fc, ⟨v, hv⟩, ap⟩ := F.own x hx; ⟨c, hc, fc, ⟨v, h c v hv (F.lc x c hc).2⟩, ap⟩
theorem Fm.step {s' : Shared} (F : Fm b O B env s₀ G s) (N : Nx b [] s s') : Fm b O B env s₀ G s' :=
  ⟨F.nx.tr N, F.ks, F.gl, F.bl, F.gL, F.fL, F.bf, fun d h => Nat.lt_of_lt_of_le (F.lB d h) N.sz, F.lc' N.sz, F.own' (fun c v hc g => cell_nx hc N g), let ⟨m, hn, hv⟩ := F.vars; ⟨m, ns_nx hn N F.gL, fun x P e => by
    obtain ⟨v, hp, hh⟩ := hv x P e
    refine ⟨v, P.st (Mv.of0 N) hp, ?_⟩
    rcases hh with h | ⟨hk, c, hc, g, hcell⟩
    · exact .inl h
    · exact .inr ⟨hk, c, hc, g, cell_nx hcell N g⟩⟩⟩
theorem Fm.sub {G' : List (Str × VP)} (F : Fm b O B env s₀ G s) (h : ∀ x P, G'.lookup x = some P → G.lookup x = some P) : Fm b O B env s₀ G' s :=
  ⟨F.nx, F.ks, F.gl, F.bl, F.gL, F.fL, F.bf, F.lB, F.lc, F.own, let ⟨m, hn, hv⟩ := F.vars; ⟨m, hn, fun x P e => hv x P (h x P e)⟩⟩

theorem ns_noseq {a : Addr} {m : Str → Option Value} (hn : s.heap.Ns a m) : ∀ o, s.heap.get? a = some o → ∀ its n, o.data ≠ .seq its n := fun o e its n hd => by
  obtain ⟨o', es, ep, e', hd', _⟩ := hn
  rw [e] at e'; cases e'; rw [hd] at hd'; cases hd'
theorem cell_noseq {a : Addr} {v : Option Value} (hn : s.heap.IsCell a v) : ∀ o, s.heap.get? a = some o → ∀ its n, o.data ≠ .seq its n := fun o e its n hd => by
  obtain ⟨o', e', hd'⟩ := hn
  rw [e] at e'; cases e'; rw [hd] at hd'; cases hd'
theorem cell_ne_ns {a c : Addr} {m : Str → Option Value} {v : Option Value} (hn : s.heap.Ns a m) (hc : s.heap.IsCell c v) : c ≠ a := fun q => by
  obtain ⟨o, es, ep, e, hd, _⟩ := hn
  obtain ⟨o', e', hd'⟩ := hc
  rw [q, e] at e'; cases e'; rw [hd] at hd'; cases hd'

/-- a store into a local -/
theorem Fm.setL {x : Str} {v : Value} {P : VP} {Q : Unit → Shared → Prop} (F : Fm b O B env s₀ G s) (hv : P.p B v s.heap) (h : ∀ s', Nx b [env.locals] s s' → Mv b B s s' → Fm b O B env s₀ ((x, P) :: G) s' → Q () s') (hl : env.kindOf x = some .local := by rfl) :
    wpAny (model PW w) A (storeName env x v) Q E s := by
  obtain ⟨m, hn, hvars⟩ := F.vars
  have fL := F.bf _ F.fL
  refine set_loc F.st hn F.gL fL (fun s' N hn' => ?_) hl (by rw [F.ks]; rfl)
  have M : Mv b B s s' := Mv.of1 N (ns_noseq hn)
  have N0 : Nx b [] s₀ s' := F.nx.trans N (fun _ h => nomatch h) (fun c hc => .inr (by rw [List.mem_singleton.mp hc]; exact F.fL))
  refine h s' N M ⟨N0, F.ks, F.gl, F.bl, F.gL, F.fL, F.bf, fun d h => Nat.lt_of_lt_of_le (F.lB d h) N.sz, F.lc' N.sz, F.own' (fun c v hc g => cell_nx hc N g (fun q => cell_ne_ns hn hc (List.mem_singleton.mp q))), _, hn', fun y P' e => ?_⟩
  rw [List.lookup_cons] at e
  by_cases hy : y = x
  · subst hy
    simp at e
    subst e
    exact ⟨v, P.st M hv, .inl ⟨hl, by simp⟩⟩
  · have : (y == x) = false := by simpa using hy
    rw [this] at e
    obtain ⟨u, hp, hh⟩ := hvars y P' e
    refine ⟨u, P'.st M hp, ?_⟩
    rcases hh with ⟨h1, h2⟩ | ⟨hk, c, hc, g, hcell⟩
    · exact .inl ⟨h1, by simp [hy, h2]⟩
    · exact .inr ⟨hk, c, hc, g, cell_nx hcell N g (fun q => cell_ne_ns hn hcell (List.mem_singleton.mp q))⟩

/-- a store into a cell of one's own -/
theorem Fm.setC {x : Str} {v : Value} {P : VP} {Q : Unit → Shared → Prop} (F : Fm b O B env s₀ G s) (hv : P.p B v s.heap) (hO : x ∈ O)
    (h : ∀ c s', Nx b [c] s s' → (∃ v₀, s.heap.IsCell c v₀) → env.cells.lookup x = some c → Mv b B s s' → Fm b O B env s₀ ((x, P) :: G) s' → Q () s') (hl : env.kindOf x = some .cell := by rfl) :
    wpAny (model PW w) A (storeName env x v) Q E s := by
  obtain ⟨m, hn, hvars⟩ := F.vars
  obtain ⟨c, hc, fc, ⟨v₀, hcell⟩, ap⟩ := F.own x hO
  have gc := (F.lc x c hc).2
  have fcb := F.bf _ fc
  refine wpAny_storeName_cell F.ks hl hc hcell fun h' hcell' hs => ?_
  have N : Nx b [c] s { s with heap := h', toks := s.toks } := Nx.same F.st hs gc fcb (NC.isCell hcell)
  have M : Mv b B s { s with heap := h' } := Mv.of1 N (cell_noseq hcell)
  have N0 : Nx b [] s₀ { s with heap := h' } := F.nx.trans N (fun _ h => nomatch h) (fun d hd => .inr (by rw [List.mem_singleton.mp hd]; exact fc))
  refine h c _ N ⟨v₀, hcell⟩ hc M ⟨N0, F.ks, F.gl, F.bl, F.gL, F.fL, F.bf, fun d h => Nat.lt_of_lt_of_le (F.lB d h) N.sz, F.lc' N.sz, fun y hy => ?_, m, ns_nx hn N F.gL (fun q => cell_ne_ns hn hcell (List.mem_singleton.mp q).symm), fun y P' e => ?_⟩
  · obtain ⟨d, hd, fd, ⟨u, hu⟩, apd⟩ := F.own y hy
    refine ⟨d, hd, fd, ?_, apd⟩
    by_cases e : d = c
    · rw [e]; exact ⟨_, hcell'⟩
    · exact ⟨u, cell_nx hu N (F.lc y d hd).2 (fun q => e (List.mem_singleton.mp q))⟩
  rw [List.lookup_cons] at e
  by_cases hy : y = x
  · subst hy
    simp at e
    subst e
    exact ⟨v, P.st M hv, .inr ⟨.inl hl, c, hc, gc, hcell'⟩⟩
  · have : (y == x) = false := by simpa using hy
    rw [this] at e
    obtain ⟨u, hp, hh⟩ := hvars y P' e
    refine ⟨u, P'.st M hp, ?_⟩
    rcases hh with h1 | ⟨hk, d, hd, g, hcd⟩
    · exact .inl h1
    · exact .inr ⟨hk, d, hd, g, cell_nx hcd N g (fun q => hy (ap y (by rw [hd, List.mem_singleton.mp q])))⟩

/-- an object that a frame writes: its names or a cell -/
noncomputable def Wr (s : Shared) (a : Addr) : Prop := (∃ m, s.heap.Ns a m) ∨ ∃ v, s.heap.IsCell a v
theorem Wr.noseq {a : Addr} (x : Wr s a) : ∀ o, s.heap.get? a = some o → ∀ its n, o.data ≠ .seq its n := x.elim (fun ⟨_, h⟩ => ns_noseq h) (fun ⟨_, h⟩ => cell_noseq h)
theorem Wr.nofld {a : Addr} (x : Wr s a) {o : Obj} {vs} (e : s.heap.get? a = some o) (hd : o.data = .fields vs) : False := by
  rcases x with ⟨m, o', es, ep, e', hd', _⟩ | ⟨v, o', e', hd'⟩
  · rw [e] at e'; cases e'; rw [hd] at hd'; cases hd'
  · rw [e] at e'; cases e'; rw [hd] at hd'; cases hd'
/-- a store -/
theorem Fm.set {x : Str} {v : Value} {P : VP} {Q : Unit → Shared → Prop} (F : Fm b O B env s₀ G s) (hv : P.p B v s.heap) (hl : env.kindOf x = some .local ∨ (env.kindOf x = some .cell ∧ x ∈ O))
    (h : ∀ a s', Nx b [a] s s' → Wr s a → Fm b O B env s₀ ((x, P) :: G) s' → Q () s') : wpAny (model PW w) A (storeName env x v) Q E s := by
  rcases hl with hl | ⟨hl, hO⟩
  · obtain ⟨m, hn, _⟩ := F.vars
    refine F.setL hv (fun s' N M F' => h _ s' N (.inl ⟨m, hn⟩) F') hl
  · exact F.setC hv hO (fun c s' N hc _ M F' => h c s' N (.inr hc) F') hl

/-- an expression that leaves all standing and gives a P -/
noncomputable def EV (w : World) (b : Heap) (A : Around) (env : Env) (G : List (Str × VP)) (e : Expr) (P : VP) : Prop :=
  ∀ (O : List Str) (B : List Addr) (s₀ s : Shared) (Q : Value → Shared → Prop) (E : Value → Shared → Prop), Fm b O B env s₀ G s → (∀ v s', Nx b [] s s' → P.p B v s'.heap → Q v s') → wpAny (model PW w) A (eval e env) Q E s
/-- a test -/
noncomputable def TV (w : World) (b : Heap) (A : Around) (env : Env) (G : List (Str × VP)) (e : Expr) (c : Bool) : Prop :=
  ∀ (O : List Str) (B : List Addr) (s₀ s : Shared) (Q : Bool → Shared → Prop) (E : Value → Shared → Prop), Fm b O B env s₀ G s → (∀ s', Nx b [] s s' → Q c s') → wpAny (model PW w) A (isTrue e env (eval e env)) Q E s

theorem EV.name {x : Str} {pos : Pos} {P : VP} (h : G.lookup x = some P := by rfl) (hd : (x == ("__debug__" : Str)) = false := by decide) (hcd : (x == ("__classdict__" : Str)) = false := by decide) : EV w b A env G (.Name x pos) P := fun O B s₀ s Q E F hq => by
  obtain ⟨m, hn, hv⟩ := F.vars
  obtain ⟨v, hp, hh⟩ := hv x P h
  refine wpAny_Name ?_ hd
  rcases hh with ⟨hl, hm⟩ | ⟨hk | hk, c, hc, g, hcell⟩
  · exact wpAny_loadName_local F.ks hl hn hm (hq v s (Nx.refl F.st) hp)
  · exact wpAny_loadName_cell F.ks hk hc hcell (hq v s (Nx.refl F.st) hp)
  · exact wpAny_loadName_free F.ks hk hc hcell (hq v s (Nx.refl F.st) hp) hcd
theorem Nx.fresh {s : Shared} (st : St b s) {k : Nat} : Nx b [] s { s with toks := k } := (Nx.refl st).toks
theorem EV.int {i : Int} {k : Nat} {pos : Pos} : EV w b A env G (.Constant (.int i) k pos) (intV i) := fun O B s₀ s Q E F hq => wpAny_Constant_int (hq _ _ (Nx.fresh F.st) ⟨_, rfl⟩)
theorem EV.str {i : Str} {k : Nat} {pos : Pos} : EV w b A env G (.Constant (.str i) k pos) (strV i) := fun O B s₀ s Q E F hq => wpAny_Constant_str (hq _ _ (Nx.fresh F.st) ⟨_, rfl⟩)
theorem EV.cnone {k : Nat} {pos : Pos} : EV w b A env G (.Constant .none k pos) noneV := fun O B s₀ s Q E F hq => wpAny_Constant_none (hq _ _ (Nx.refl F.st) rfl)
theorem EV.bool {c : Bool} {k : Nat} {pos : Pos} : EV w b A env G (.Constant (.bool c) k pos) (boolV c) := fun O B s₀ s Q E F hq => wpAny_Constant_bool (hq _ _ (Nx.refl F.st) rfl)

theorem EV.bin {e1 e2 : Expr} {op : Operator} {pos : Pos} {P1 P2 P : VP} (h1 : EV w b A env G e1 P1) (h2 : EV w b A env G e2 P2)
    (h : ∀ (B : List Addr) (v1 v2 : Value) (s : Shared) (Q : Value → Shared → Prop) (E : Value → Shared → Prop), St b s → (∀ d ∈ B, d < s.heap.objs.size) → P1.p B v1 s.heap → P2.p B v2 s.heap → (∀ v s', Nx b [] s s' → P.p B v s'.heap → Q v s') → wpAny (model PW w) A (binaryOp op v1 v2) Q E s) :
    EV w b A env G (.BinOp e1 op e2 pos) P := fun O B s₀ s Q E F hq =>
  wpAny_BinOp (h1 O B s₀ s _ _ F fun v1 s1 N1 p1 => h2 O B s₀ s1 _ _ (F.step N1) fun v2 s2 N2 p2 => h B v1 v2 s2 Q E N2.st (F.step (N1.tr N2)).lB (P1.st (Mv.of0 N2) p1) p2 fun v s3 N3 p3 => hq v s3 ((N1.tr N2).tr N3) p3)

theorem EV.add {e1 e2 : Expr} {pos : Pos} {i j : Int} (h1 : EV w b A env G e1 (intV i)) (h2 : EV w b A env G e2 (intV j)) : EV w b A env G (.BinOp e1 .Add e2 pos) (intV (i + j)) :=
  .bin h1 h2 fun B v1 v2 s Q E st lB ⟨t, e⟩ ⟨u, e'⟩ hq => by subst e e'; exact PyProof.Rows.add_int (hq _ _ (Nx.fresh st) ⟨_, rfl⟩)
theorem EV.sub {e1 e2 : Expr} {pos : Pos} {i j : Int} (h1 : EV w b A env G e1 (intV i)) (h2 : EV w b A env G e2 (intV j)) : EV w b A env G (.BinOp e1 .Sub e2 pos) (intV (i - j)) :=
  .bin h1 h2 fun B v1 v2 s Q E st lB ⟨t, e⟩ ⟨u, e'⟩ hq => by subst e e'; exact PyProof.Rows.sub_int' (hq _ _ (Nx.fresh st) ⟨_, rfl⟩)
theorem EV.mul {e1 e2 : Expr} {pos : Pos} {i j : Int} (h1 : EV w b A env G e1 (intV i)) (h2 : EV w b A env G e2 (intV j)) (hm : IntMulOk i j) : EV w b A env G (.BinOp e1 .Mult e2 pos) (intV (i * j)) :=
  .bin h1 h2 fun B v1 v2 s Q E st lB ⟨t, e⟩ ⟨u, e'⟩ hq => by subst e e'; exact PyProof.Rows.mul_int (hq _ _ (Nx.fresh st) ⟨_, rfl⟩) hm
theorem EV.mod {e1 e2 : Expr} {pos : Pos} {i j : Int} (h1 : EV w b A env G e1 (intV i)) (h2 : EV w b A env G e2 (intV j)) (hj : j ≠ 0) : EV w b A env G (.BinOp e1 .Mod e2 pos) (intV (i.fmod j)) :=
  .bin h1 h2 fun B v1 v2 s Q E st lB ⟨t, e⟩ ⟨u, e'⟩ hq => by subst e e'; exact PyProof.Rows.mod_int' hj (hq _ _ (Nx.fresh st) ⟨_, rfl⟩)
theorem EV.fdiv {e1 e2 : Expr} {pos : Pos} {i j : Int} (h1 : EV w b A env G e1 (intV i)) (h2 : EV w b A env G e2 (intV j)) (hj : j ≠ 0) (hp : Builtin.divisionGoesByPylong i j = false) : EV w b A env G (.BinOp e1 .FloorDiv e2 pos) (intV (i.fdiv j)) :=
  .bin h1 h2 fun B v1 v2 s Q E st lB ⟨t, e⟩ ⟨u, e'⟩ hq => by subst e e'; exact PyProof.Rows.floordiv_int hj (hq _ _ (Nx.fresh st) ⟨_, rfl⟩) (.inl hp)
theorem EV.and {e1 e2 : Expr} {pos : Pos} {i j : Int} (h1 : EV w b A env G e1 (intV i)) (h2 : EV w b A env G e2 (intV j)) : EV w b A env G (.BinOp e1 .BitAnd e2 pos) (intV (Builtin.bitAnd i j)) :=
  .bin h1 h2 fun B v1 v2 s Q E st lB ⟨t, e⟩ ⟨u, e'⟩ hq => by subst e e'; exact PyProof.Rows.and_int (hq _ _ (Nx.fresh st) ⟨_, rfl⟩)
theorem EV.xor {e1 e2 : Expr} {pos : Pos} {i j : Int} (h1 : EV w b A env G e1 (intV i)) (h2 : EV w b A env G e2 (intV j)) : EV w b A env G (.BinOp e1 .BitXor e2 pos) (intV (Builtin.bitXor i j)) :=
  .bin h1 h2 fun B v1 v2 s Q E st lB ⟨t, e⟩ ⟨u, e'⟩ hq => by subst e e'; exact PyProof.Rows.xor_int (hq _ _ (Nx.fresh st) ⟨_, rfl⟩)
theorem EV.pow {e1 e2 : Expr} {pos : Pos} {i j : Int} (h1 : EV w b A env G e1 (intV i)) (h2 : EV w b A env G e2 (intV j)) (hn : 0 ≤ j) (hsz : (Builtin.Int.intBits i : Int) * j ≤ 2 ^ 27) : EV w b A env G (.BinOp e1 .Pow e2 pos) (intV (i ^ j.toNat)) :=
  .bin h1 h2 fun B v1 v2 s Q E st lB ⟨t, e⟩ ⟨u, e'⟩ hq => by subst e e'; exact PyProof.Rows.pow_int hn hsz (hq _ _ (Nx.fresh st) ⟨_, rfl⟩)
theorem EV.cat {e1 e2 : Expr} {pos : Pos} {i j : Str} (h1 : EV w b A env G e1 (strV i)) (h2 : EV w b A env G e2 (strV j)) (hsz : i.length + j.length ≤ 1000000) : EV w b A env G (.BinOp e1 .Add e2 pos) (strV (i ++ j)) :=
  .bin h1 h2 fun B v1 v2 s Q E st lB ⟨t, e⟩ ⟨u, e'⟩ hq => by subst e e'; exact PyProof.Rows.add_str (fun t' tk => hq _ _ (Nx.fresh st) ⟨_, rfl⟩) (Nat.le_trans hsz (by decide))
theorem EV.cmp {e1 e2 : Expr} {op : CmpOp} {pos : Pos} {P1 P2 P : VP} (h1 : EV w b A env G e1 P1) (h2 : EV w b A env G e2 P2)
    (h : ∀ (B : List Addr) (v1 v2 : Value) (s : Shared) (Q : Value → Shared → Prop) (E : Value → Shared → Prop), St b s → (∀ d ∈ B, d < s.heap.objs.size) → P1.p B v1 s.heap → P2.p B v2 s.heap → (∀ v s', Nx b [] s s' → P.p B v s'.heap → Q v s') → wpAny (model PW w) A (compareOp op v1 v2) Q E s)
    (hm : behindInMarks op e2 = false := by with_unfolding_all rfl) :
    EV w b A env G (.Compare e1 [op] [e2] pos) P := fun O B s₀ s Q E F hq =>
  wpAny_Compare1 (h1 O B s₀ s _ _ F fun v1 s1 N1 p1 => h2 O B s₀ s1 _ _ (F.step N1) fun v2 s2 N2 p2 => h B v1 v2 s2 Q E N2.st (F.step (N1.tr N2)).lB (P1.st (Mv.of0 N2) p1) p2 fun v s3 N3 p3 => hq v s3 ((N1.tr N2).tr N3) p3) hm
theorem TV.cmp {e1 e2 : Expr} {op : CmpOp} {pos : Pos} {P1 P2 : VP} {c : Bool} (h1 : EV w b A env G e1 P1) (h2 : EV w b A env G e2 P2)
    (h : ∀ (B : List Addr) (v1 v2 : Value) (s : Shared) (Q : Value → Shared → Prop) (E : Value → Shared → Prop), St b s → (∀ d ∈ B, d < s.heap.objs.size) → P1.p B v1 s.heap → P2.p B v2 s.heap → (∀ v s', Nx b [] s s' → (boolV c).p B v s'.heap → Q v s') → wpAny (model PW w) A (compareOp op v1 v2) Q E s)
    (hm : behindInMarks op e2 = false := by with_unfolding_all rfl) :
    TV w b A env G (.Compare e1 [op] [e2] pos) c := fun O B s₀ s Q E F hq =>
  wpAny_isTrue_Compare1 (h1 O B s₀ s _ _ F fun v1 s1 N1 p1 => h2 O B s₀ s1 _ _ (F.step N1) fun v2 s2 N2 p2 => h B v1 v2 s2 _ E N2.st (F.step (N1.tr N2)).lB (P1.st (Mv.of0 N2) p1) p2 fun v s3 N3 p3 => by
    cases p3; exact wpAny_truthy_bool (hq s3 ((N1.tr N2).tr N3))) hm
/-- the int comparisons -/
noncomputable def CmpI (w : World) (b : Heap) (A : Around) (op : CmpOp) (i j : Int) (c : Bool) : Prop :=
  ∀ (B : List Addr) (v1 v2 : Value) (s : Shared) (Q : Value → Shared → Prop) (E : Value → Shared → Prop), St b s → (∀ d ∈ B, d < s.heap.objs.size) → (intV i).p B v1 s.heap → (intV j).p B v2 s.heap → (∀ v s', Nx b [] s s' → (boolV c).p B v s'.heap → Q v s') → wpAny (model PW w) A (compareOp op v1 v2) Q E s
theorem CmpI.lt {i j : Int} : CmpI w b A .Lt i j (decide (i < j)) := fun B v1 v2 s Q E st lB ⟨t, e⟩ ⟨u, e'⟩ hq => by subst e e'; exact PyProof.Rows.lt_int (hq _ _ (Nx.refl st) rfl)
theorem CmpI.le {i j : Int} : CmpI w b A .LtE i j (decide (i ≤ j)) := fun B v1 v2 s Q E st lB ⟨t, e⟩ ⟨u, e'⟩ hq => by subst e e'; exact PySem.P.le_int (hq _ _ (Nx.refl st) rfl)
theorem CmpI.gt {i j : Int} : CmpI w b A .Gt i j (decide (j < i)) := fun B v1 v2 s Q E st lB ⟨t, e⟩ ⟨u, e'⟩ hq => by subst e e'; exact PyProof.Rows.gt_int (hq _ _ (Nx.refl st) rfl)
theorem CmpI.eq {i j : Int} : CmpI w b A .Eq i j (i == j) := fun B v1 v2 s Q E st lB ⟨t, e⟩ ⟨u, e'⟩ hq => by subst e e'; exact PyProof.Rows.eq_int (hq _ _ (Nx.refl st) rfl)
theorem EV.lt {e1 e2 : Expr} {pos : Pos} {i j : Int} (h1 : EV w b A env G e1 (intV i)) (h2 : EV w b A env G e2 (intV j)) (hm : behindInMarks .Lt e2 = false := by with_unfolding_all rfl) : EV w b A env G (.Compare e1 [.Lt] [e2] pos) (boolV (decide (i < j))) := .cmp h1 h2 CmpI.lt hm
theorem TV.lt {e1 e2 : Expr} {pos : Pos} {i j : Int} (h1 : EV w b A env G e1 (intV i)) (h2 : EV w b A env G e2 (intV j)) (hm : behindInMarks .Lt e2 = false := by with_unfolding_all rfl) : TV w b A env G (.Compare e1 [.Lt] [e2] pos) (decide (i < j)) := .cmp h1 h2 CmpI.lt hm
theorem TV.gt {e1 e2 : Expr} {pos : Pos} {i j : Int} (h1 : EV w b A env G e1 (intV i)) (h2 : EV w b A env G e2 (intV j)) (hm : behindInMarks .Gt e2 = false := by with_unfolding_all rfl) : TV w b A env G (.Compare e1 [.Gt] [e2] pos) (decide (j < i)) := .cmp h1 h2 CmpI.gt hm
theorem EV.gt {e1 e2 : Expr} {pos : Pos} {i j : Int} (h1 : EV w b A env G e1 (intV i)) (h2 : EV w b A env G e2 (intV j)) (hm : behindInMarks .Gt e2 = false := by with_unfolding_all rfl) : EV w b A env G (.Compare e1 [.Gt] [e2] pos) (boolV (decide (j < i))) := .cmp h1 h2 CmpI.gt hm
theorem TV.le {e1 e2 : Expr} {pos : Pos} {i j : Int} (h1 : EV w b A env G e1 (intV i)) (h2 : EV w b A env G e2 (intV j)) (hm : behindInMarks .LtE e2 = false := by with_unfolding_all rfl) : TV w b A env G (.Compare e1 [.LtE] [e2] pos) (decide (i ≤ j)) := .cmp h1 h2 CmpI.le hm
theorem EV.le {e1 e2 : Expr} {pos : Pos} {i j : Int} (h1 : EV w b A env G e1 (intV i)) (h2 : EV w b A env G e2 (intV j)) (hm : behindInMarks .LtE e2 = false := by with_unfolding_all rfl) : EV w b A env G (.Compare e1 [.LtE] [e2] pos) (boolV (decide (i ≤ j))) := .cmp h1 h2 CmpI.le hm
theorem TV.eq {e1 e2 : Expr} {pos : Pos} {i j : Int} (h1 : EV w b A env G e1 (intV i)) (h2 : EV w b A env G e2 (intV j)) (hm : behindInMarks .Eq e2 = false := by with_unfolding_all rfl) : TV w b A env G (.Compare e1 [.Eq] [e2] pos) (i == j) := .cmp h1 h2 CmpI.eq hm
theorem EV.eq {e1 e2 : Expr} {pos : Pos} {i j : Int} (h1 : EV w b A env G e1 (intV i)) (h2 : EV w b A env G e2 (intV j)) (hm : behindInMarks .Eq e2 = false := by with_unfolding_all rfl) : EV w b A env G (.Compare e1 [.Eq] [e2] pos) (boolV (i == j)) := .cmp h1 h2 CmpI.eq hm
theorem TV.eqs {e1 e2 : Expr} {pos : Pos} {i j : Str} (h1 : EV w b A env G e1 (strV i)) (h2 : EV w b A env G e2 (strV j)) (hm : behindInMarks .Eq e2 = false := by with_unfolding_all rfl) : TV w b A env G (.Compare e1 [.Eq] [e2] pos) (i == j) :=
  .cmp h1 h2 (fun B v1 v2 s Q E st lB ⟨t, e⟩ ⟨u, e'⟩ hq => by subst e e'; exact PyProof.Rows.eq_str (hq _ _ (Nx.refl st) rfl)) hm
theorem EV.ite {t e1 e2 : Expr} {pos : Pos} {c : Bool} {P1 P2 P : VP} (ht : TV w b A env G t c) (h1 : c = true → EV w b A env G e1 P) (h2 : c = false → EV w b A env G e2 P) : EV w b A env G (.IfExp t e1 e2 pos) P := fun O B s₀ s Q E F hq =>
  wpAny_IfExp (ht O B s₀ s _ _ F fun s1 N1 => by
    cases c with
    | true => exact h1 rfl O B s₀ s1 _ _ (F.step N1) fun v s2 N2 p => hq v s2 (N1.tr N2) p
    | false => exact h2 rfl O B s₀ s1 _ _ (F.step N1) fun v s2 N2 p => hq v s2 (N1.tr N2) p)

/-- the arguments of a call -/
noncomputable def ES (w : World) (b : Heap) (A : Around) (env : Env) (G : List (Str × VP)) (es : List Expr) (Ps : List VP) : Prop :=
  ∀ (O : List Str) (B : List Addr) (s₀ s : Shared) (pos : Pos) (Q : List Value → Shared → Prop) (E : Value → Shared → Prop), Fm b O B env s₀ G s → (∀ vs s', Nx b [] s s' → AllR B s'.heap Ps vs → Q vs s') → wpAny (model PW w) A (spliced (backTo pos (starEach es env))) Q E s
theorem ES.nil : ES w b A env G [] [] := fun O B s₀ s pos Q E F hq => spliced_none (hq [] s (Nx.refl F.st) trivial)
theorem ES.cons {e : Expr} {es : List Expr} {P : VP} {Ps : List VP} (h1 : EV w b A env G e P) (h2 : ES w b A env G es Ps) (he : starEach (e :: es) env = (false, eval e env) :: starEach es env := by rfl) : ES w b A env G (e :: es) (P :: Ps) := fun O B s₀ s pos Q E F hq =>
  spliced_more (h1 O B s₀ s _ _ F fun v s1 N1 p1 => h2 O B s₀ s1 pos _ _ (F.step N1) fun vs s2 N2 p2 => hq (v :: vs) s2 (N1.tr N2) ⟨P.st (Mv.of0 N2) p1, p2⟩) he
/-- a call's contract -/
noncomputable def CS (w : World) (b : Heap) (A : Around) (f : Value) (Ps : List VP) (P : VP) : Prop :=
  ∀ (B : List Addr) (s : Shared) (vs : List Value) (Q : Value → Shared → Prop) (E : Value → Shared → Prop), St b s → (∀ d ∈ B, d < s.heap.objs.size) → AllR B s.heap Ps vs → (∀ v s', Nx b [] s s' → P.p B v s'.heap → Q v s') → wpAny (model PW w) A (call f vs) Q E s

/-- a call of a def of the text, by its global name -/
theorem EV.callK {x : Str} {f : Addr} {p1 pos : Pos} {e : Expr} {es : List Expr} {Ps : List VP} {P : VP} (W : WW w b mg mb bm ob) (hs : ES w b A env G (e :: es) Ps) (hc : CS w b A (.ref f) Ps P)
    (hx : env.kindOf x = some .globalImplicit := by rfl) (e1 : nsIn (KK w) mainGlobals x = some (some (.ref f)) := by kernel_rfl) (hkp : keepIn (KK w) (.ref f) = true := by kernel_rfl)
    (he : starEach (e :: es) env = (false, eval e env) :: starEach es env := by rfl) (hplain : (backTo pos (starEach es env)).any (·.1) = false := by rfl) (hd : (x == ("__debug__" : Str)) = false := by decide)
    (hev : eval (.Call (.Name x p1) (e :: es) [] pos) env = (do callWith pos (← eval (.Name x p1) env) [] (backTo pos (starEach (e :: es) env)) (backToKw pos (keywordEach [] env))) := by rfl) : EV w b A env G (.Call (.Name x p1) (e :: es) [] pos) P := fun O B s₀ s Q E F hq =>
  Call_ (nm_glob W F.st (callWith_K (K := KK w) (F.st.k W) hkp (hs O B s₀ s pos _ _ F fun vs s1 N1 p1 => ⟨N1.st.k W, hc B s1 vs Q E N1.st (F.step N1).lB p1 fun v s2 N2 p => hq v s2 (N1.tr N2) p⟩) he hplain) e1 F.ks hx F.gl hd) hev
/-- a call of a built-in function of one or more arguments -/
theorem EV.callB {x : Str} {id : String} {p1 pos : Pos} {e : Expr} {es : List Expr} {Ps : List VP} {P : VP} (W : WW w b mg mb bm ob) (hs : ES w b A env G (e :: es) Ps) (hc : CS w b A (.builtin id) Ps P)
    (hx : env.kindOf x = some .globalImplicit := by rfl) (e2 : bootBuiltins x = some (.builtin id) := by rfl) (e1 : nsIn (KK w) mainGlobals x = some none := by kernel_rfl) (hn : x ≠ "__name__" := by decide)
    (he : starEach (e :: es) env = (false, eval e env) :: starEach es env := by rfl) (hplain : (backTo pos (starEach es env)).any (·.1) = false := by rfl) (hd : (x == ("__debug__" : Str)) = false := by decide)
    (hev : eval (.Call (.Name x p1) (e :: es) [] pos) env = (do callWith pos (← eval (.Name x p1) env) [] (backTo pos (starEach (e :: es) env)) (backToKw pos (keywordEach [] env))) := by rfl) : EV w b A env G (.Call (.Name x p1) (e :: es) [] pos) P := fun O B s₀ s Q E F hq =>
  Call_ (nm_bi W F.st e2 (PyProof.Rows.callWith_builtin1 (hs O B s₀ s pos _ _ F fun vs s1 N1 p1 => hc B s1 vs Q E N1.st (F.step N1).lB p1 fun v s2 N2 p => hq v s2 (N1.tr N2) p) he hplain) e1 F.ks hx F.gl F.bl hn hd) hev
end
end Mine
end -- V1
section -- V2
/-! iterators; the inner frame of a comprehension -/
set_option maxRecDepth 100000
namespace Mine
open PySem PySem.W PySem.Calls PyProof.Rows Builtin
set_option maxHeartbeats 400000

/-- an iterator at I over items that are Ps; J B i: i of them are taken -/
structure Itr (w : World) (b : Heap) (I : Addr) (Ps : List VP) (J : List Addr → Nat → Heap → Prop) : Prop where
  ext : ∀ {B i h d}, h.get? d = none → J B i h → J (d :: B) i h
  frame : ∀ {B i s s' X}, J B i s.heap → Nx b X s s' → I ∉ X → (∀ a ∈ X, a ∈ B ∨ ∀ o, s.heap.get? a = some o → ∀ its n, o.data ≠ .seq its n) → J B i s'.heap
  live : ∀ {B i h}, J B i h → ∃ o, h.get? I = some o ∧ ∃ vs, o.data = .fields vs
  gI : 232 < I
  item : ∀ {A : Around} {B i P s Q E}, A.handled = none → Ps[i]? = some P → St b s → J B i s.heap → (∀ v s', Nx b [I] s s' → J B (i + 1) s'.heap → P.p B v s'.heap → Q (some v) s') → wpAny (model PW w) A (pyNext (.ref I)) Q E s
  done : ∀ {A : Around} {B s Q E}, A.handled = none → St b s → J B Ps.length s.heap → (∀ s', Nx b [I] s s' → Q none s') → wpAny (model PW w) A (pyNext (.ref I)) Q E s
  self : ∀ {A : Around} {B i s Q E}, J B i s.heap → Q (.ref I) s → wpAny (model PW w) A (pyIter (.ref I)) Q E s
  nolet : ∀ {B i h} {A : Around} {Q : Unit → Shared → Prop} {E s} {t v}, J B i h → s.heap = h → Q () s → wpAny (model PW w) A (letOwnedTupleGo t (.ref I) v) Q E s

/-- iter() upon a value that is a P gives the items Ps -/
noncomputable def ITV (w : World) (b : Heap) (P : VP) (Ps : List VP) : Prop :=
  ∀ (A : Around) (B : List Addr) (s : Shared) (v : Value) (Q : Value → Shared → Prop) (E : Value → Shared → Prop), A.handled = none → St b s → (∀ d ∈ B, d < s.heap.objs.size) → P.p B v s.heap →
    (∀ I J s', Nx b [] s s' → Itr w b I Ps J → J B 0 s'.heap → s.heap.objs.size ≤ I → Q (.ref I) s') → wpAny (model PW w) A (pyIter v) Q E s

section
variable {w : World} {A : Around} {E : Value → Shared → Prop} {s s₀ : Shared} {b : Heap} {mg mb : Str → Option Value} {bm : Addr} {ob : Obj} {env : Env} {G : List (Str × VP)} {B : List Addr} {O : List Str}

theorem Nx.of1 {X : List Addr} {h' : Heap} {tk : Nat} {I : Addr} (st : St b s) (hk : ∀ c o, c ∉ [I] → s.heap.get? c = some o → h'.get? c = some o) (gI : 232 < I) (fI : b.get? I = none) (hs : s.heap.objs.size ≤ h'.objs.size) (hn : NC s.heap I) : Nx b [I] s { s with heap := h', toks := tk } :=
  ⟨⟨⟨fun a o e => hk a o (fun q => by rw [List.mem_singleton.mp q, fI] at e; cases e) (st.ext a o e), fun P hP => let ⟨ps, e, r⟩ := st.tab P hP; ⟨ps, hk _ _ (fun q => notab_of gI (List.mem_singleton.mp q ▸ hP)) e, r⟩, st.bare⟩, fun a o _ ha e => hk a o ha e, hs, rfl, rfl⟩,
    st.cod.but (X := [I]) hk (fun a ha => by rw [List.mem_singleton.mp ha]; exact hn)⟩

theorem letGo_plain {T : String} {a : Addr} {o : Obj} {t : Expr} {v : Value} {Q : Unit → Shared → Prop} (ho : s.heap.get? a = some o) (hc : o.cls = .type T)
    (hT : (["enumerate", "zip", "dict_itemiterator", "dict_reverseitemiterator", "odict_iterator", "itertools.zip_longest", "itertools.pairwise"].contains T) = false) (h : Q () s) : wpAny (model PW w) A (letOwnedTupleGo t (.ref a) v) Q E s := by
  have hp : ∀ (x : Sem Unit), wpAny (model PW w) A (match v with
      | .ref r' => do
        let o ← load a
        match o.cls, o.data with
        | .type n, .fields vs =>
          if ["enumerate", "zip", "dict_itemiterator", "dict_reverseitemiterator", "odict_iterator", "itertools.zip_longest", "itertools.pairwise"].contains n && vs[0]? == some (rawInt r') then
            rule "for.unpacks-the-owned-tuple"
            updateField a 0 .none
        | _, _ => pure ()
      | _ => pure ()) Q E s := by
    intro _
    cases v with
    | ref r' =>
      refine wpAny_bind (wpAny_load ho ?_)
      rw [hc]
      cases o.data with
      | fields vs => simp only [hT, Bool.false_and, Bool.false_eq_true, if_false]; exact wpAny_pure h
      | _ => exact wpAny_pure h
    | _ => exact wpAny_pure h
  unfold letOwnedTupleGo
  cases t with
  | Tuple => cases v <;> first | exact wpAny_pure h | exact hp (pure ())
  | List => cases v <;> first | exact wpAny_pure h | exact hp (pure ())
  | _ => exact wpAny_pure h

theorem nc_listiter {h : Heap} {I a : Addr} {i : Nat} (x : h.IsListIter I a i) : NC h I := fun o e => by
  obtain ⟨o', e', hc, hd⟩ := x
  rw [e] at e'; cases e'
  unfold codey; rw [hd, hc]; rfl
theorem ITV.list {Ps : List VP} : ITV w b (lstV Ps) Ps := fun A B s v Q E hA st lB ⟨a, its, e, g, hB, ⟨n, hp⟩, r⟩ hq => by
  subst e
  have hl : s.heap.IsList a its := ⟨_, hp, rfl, n, rfl⟩
  have hlt := Heap.lt_size hp
  refine wpAny_pyIter_list hl ?_
  have N := Nx.push st (o := { cls := .type "list_iterator", data := .fields #[.ref a, .int 0 0] })
  refine hq _ (fun B i h => h.IsListIter s.heap.objs.size a i ∧ a ∉ B ∧ h.PlainList a its ∧ AllR B h Ps its.toList) _ N ?_ ⟨⟨_, Heap.get?_push_size _ rfl, rfl, rfl⟩, hB, ⟨n, Heap.get?_push_of_some _ hp⟩, r.st (Mv.of0 N)⟩ (Nat.le_refl _)
  have hne : a ≠ s.heap.objs.size := Nat.ne_of_lt hlt
  have gI : 232 < s.heap.objs.size := Nat.lt_trans g hlt
  have fI : b.get? s.heap.objs.size = none := by
    cases e : b.get? s.heap.objs.size with
    | none => rfl
    | some o => exact absurd (Heap.lt_size (st.ext _ _ e)) (Nat.lt_irrefl _)
  have W := fun (A : Around) (hA : A.handled = none) => Walks.list (prog := PW) (w := w) hA s.heap.objs.size a hne its
  have len := r.len
  rw [Array.length_toList] at len
  refine ⟨?_, ?_, ?_, gI, ?_, ?_, ?_, ?_⟩
  · rintro B i h d hd ⟨h1, h2, ⟨n', h3⟩, h4⟩
    exact ⟨h1, fun q => by rcases List.mem_cons.mp q with q | q; (rw [q, hd] at h3; cases h3); exact h2 q, ⟨n', h3⟩, h4.mp fun P v x => P.ext hd x⟩
  · rintro B i s1 s2 X ⟨⟨o, e, r1⟩, h2, ⟨n', h3⟩, h4⟩ N hI hX
    have M : Mv b B s1 s2 := ⟨X, N, hX⟩
    exact ⟨⟨o, N.kp _ _ (notab_of gI) hI e, r1⟩, h2, ⟨n', M.seq g h2 h3 rfl⟩, h4.st M⟩
  · rintro B i h ⟨⟨o, e, hc, hd⟩, _⟩
    exact ⟨o, e, _, hd⟩
  · rintro A B i P s1 Q E hA hP st1 ⟨h1, h2, ⟨n', h3⟩, h4⟩ hq
    have hi : i < its.size := by rw [len]; exact (List.getElem?_eq_some_iff.mp hP).1
    refine wpAny_size (Nat.le_refl _) ((W A hA).item i s1 _ _ hi ⟨h1, _, h3, rfl, n', rfl⟩ fun v h' tk hv st' hk hsz => ?_)
    have N : Nx b [s.heap.objs.size] s1 { s1 with heap := h', toks := tk } := Nx.of1 (X := []) st1 (fun c o hc e => hk c o hc e) gI fI hsz (nc_listiter h1)
    have M : Mv b B s1 { s1 with heap := h', toks := tk } := Mv.of1 N fun o e its' n'' hd => by
      obtain ⟨o', e', _, hd'⟩ := h1
      rw [e] at e'; cases e'; rw [hd] at hd'; cases hd'
    have h4' := h4.st M
    obtain ⟨v', e1, p1⟩ := h4'.get hP
    rw [Array.getElem?_toList, hv] at e1
    cases e1
    exact hq v _ N ⟨st'.1, h2, ⟨n', M.seq g h2 h3 rfl⟩, h4'⟩ p1
  · rintro A B s1 Q E hA st1 ⟨h1, h2, ⟨n', h3⟩, h4⟩ hq
    rw [← len] at h1
    refine wpAny_size (Nat.le_refl _) ((W A hA).done s1 _ _ ⟨h1, _, h3, rfl, n', rfl⟩ fun h' tk hk hsz => ?_)
    exact hq _ (Nx.of1 (X := []) st1 (fun c o hc e => hk c o hc e) gI fI hsz (nc_listiter h1))
  · rintro A B i s1 Q E ⟨h1, _⟩ hq
    exact wpAny_pyIter_listiter h1 hq
  · rintro B i h A Q E s1 t v ⟨⟨o, e, hc, hd⟩, _⟩ he hq
    rw [← he] at e
    exact letGo_plain e hc (by decide) hq

theorem fresh_none (st : St b s) {a : Addr} (h : s.heap.objs.size ≤ a) : b.get? a = none := st.fresh h
theorem nc_of {h : Heap} {I : Addr} {p : String → Prop} (x : ∃ o T, h.get? I = some o ∧ (∃ vs, o.data = .fields vs ∧ ∀ x t, vs[1]? ≠ some (.str x t)) ∧ o.cls = .type T ∧ p T) : NC h I := fun o e => by
  obtain ⟨o', T, e', ⟨vs, hd, hv⟩, hc, _⟩ := x
  rw [e] at e'; cases e'
  unfold codey; rw [hd, hc]
  dsimp only
  split
  · rename_i x t q; exact absurd q (hv _ _)
  · simp
/-- an iterator whose state lies in I alone, its items no objects -/
theorem Itr.solo {I : Addr} {Ps : List VP} {P : Nat → Value → Prop} {St₀ : Nat → Heap → Prop} (gI : 232 < I) (fI : b.get? I = none)
    (W : ∀ A : Around, A.handled = none → Walks PW w A I [I] [I] Ps.length P St₀)
    (hP : ∀ i v p, P i v → Ps[i]? = some p → ∀ B h, p.p B v h) (hl : ∀ i h, St₀ i h → ∃ o T, h.get? I = some o ∧ (∃ vs, o.data = .fields vs ∧ ∀ x t, vs[1]? ≠ some (.str x t)) ∧ o.cls = .type T ∧
      (["enumerate", "zip", "dict_itemiterator", "dict_reverseitemiterator", "odict_iterator", "itertools.zip_longest", "itertools.pairwise"].contains T) = false)
    (hself : ∀ {A : Around} {i s Q E}, St₀ i s.heap → Q (.ref I) s → wpAny (model PW w) A (pyIter (.ref I)) Q E s) :
    Itr w b I Ps (fun _ i h => St₀ i h) where
  ext := fun _ h => h
  frame := fun {B i s s' X} h N hI _ => (W ⟨none, 0, none, none, 1⟩ rfl).frame i _ _ h fun b hb o e => by rw [List.mem_singleton.mp hb] at e ⊢; exact N.kp _ _ (notab_of gI) hI e
  live := fun h => let ⟨o, T, e, ⟨vs, d, _⟩, _⟩ := hl _ _ h; ⟨o, e, vs, d⟩
  gI := gI
  item := fun {A B i P' s1 Q E} hA hP' st1 h hq => by
    refine wpAny_size (Nat.le_refl _) ((W A hA).item i s1 _ _ (List.getElem?_eq_some_iff.mp hP').1 h fun v h' tk hv st' hk hsz => ?_)
    exact hq v _ (Nx.of1 (X := []) st1 (fun c o hc e => hk c o hc e) gI fI hsz (nc_of (hl _ _ h))) st' (hP i v P' hv hP' _ _)
  done := fun {A B s1 Q E} hA st1 h hq => by
    refine wpAny_size (Nat.le_refl _) ((W A hA).done s1 _ _ h fun h' tk hk hsz => ?_)
    exact hq _ (Nx.of1 (X := []) st1 (fun c o hc e => hk c o hc e) gI fI hsz (nc_of (hl _ _ h)))
  self := fun h hq => hself h hq
  nolet := fun {B i h A Q E s1 t v} hj he hq => by
    obtain ⟨o, T, e, d, hc, hT⟩ := hl _ _ hj
    rw [← he] at e
    exact letGo_plain e hc hT hq

theorem ITV.str {x : Str} (W : WW w b mg mb bm ob) : ITV w b (strV x) (x.cps.toList.map fun c => strV ⟨#[c]⟩) := fun A B s v Q E hA st lB ⟨t, e⟩ hq => by
  subst e
  have key : ∀ (T : String) (hT : T = "str_ascii_iterator" ∨ T = "str_iterator") (N : Nx b [] s { s with heap := s.heap.push { cls := .type T, data := .fields #[.str x t, .int 0 0] } }), 232 < s.heap.objs.size →
      Q (.ref s.heap.objs.size) { s with heap := s.heap.push { cls := .type T, data := .fields #[.str x t, .int 0 0] } } := fun T hT N gI => by
    have fI := st.fresh (Nat.le_refl s.heap.objs.size)
    have hlen : (x.cps.toList.map fun c => strV ⟨#[c]⟩).length = x.cps.size := by simp
    refine hq _ (fun _ i h => h.IsStrIter s.heap.objs.size T x t i) _ N (Itr.solo (P := SignAt x) gI fI (fun A hA => ?_) ?_ ?_ ?_) ⟨_, Heap.get?_push_size _ rfl, rfl, rfl⟩ (Nat.le_refl _)
    · rw [hlen]
      rcases hT with rfl | rfl
      · exact Walks.strAscii hA _ x t
      · exact Walks.strWide hA _ x t
    · rintro i v p ⟨c, u, h1, rfl⟩ hp B h
      rw [List.getElem?_map, Array.getElem?_toList, h1] at hp
      cases hp
      exact ⟨u, rfl⟩
    · rintro i h ⟨o, e, hc, hd⟩
      exact ⟨o, T, e, ⟨_, hd, fun x t q => by simp at q⟩, hc, by rcases hT with rfl | rfl <;> decide⟩
    · intro A i s1 Q E h hq
      rcases hT with rfl | rfl
      · exact wpAny_pyIter_striter_ascii h hq
      · exact wpAny_pyIter_striter_wide h hq
  have g : 232 < s.heap.objs.size := st.lt W
  cases ha : x.cps.all (· < 128)
  · exact wpAny_pyIter_wide ha (key _ (.inr rfl) (Nx.push st) g)
  · exact wpAny_pyIter_ascii ha (key _ (.inl rfl) (Nx.push st) g)

/-- the source of a loop: its value is iterated at once -/
noncomputable def IE (w : World) (b : Heap) (A : Around) (env : Env) (G : List (Str × VP)) (e : Expr) (Ps : List VP) : Prop :=
  ∀ (O : List Str) (B : List Addr) (s₀ s : Shared) (Q : Value → Shared → Prop) (E : Value → Shared → Prop), Fm b O B env s₀ G s →
    (∀ I J s', Nx b [] s s' → Itr w b I Ps J → J B 0 s'.heap → s.heap.objs.size ≤ I → Q (.ref I) s') → wpAny (model PW w) A (eval e env) (fun v s1 => wpAny (model PW w) A (pyIter v) Q E s1) E s
theorem IE.of {e : Expr} {P : VP} {Ps : List VP} (hA : A.handled = none) (h : EV w b A env G e P) (hi : ITV w b P Ps) : IE w b A env G e Ps := fun O B s₀ s Q E F hq =>
  h O B s₀ s _ _ F fun v s1 N1 p1 => hi A B s1 v Q E hA N1.st (F.step N1).lB p1 fun I J s2 N2 it j0 hI => hq I J s2 (N1.tr N2) it j0 (Nat.le_trans N1.sz hI)

noncomputable def rng (lo hi : Int) : List VP := (List.range (hi - lo).toNat).map fun i : Nat => intV (lo + (i : Int))
theorem rangeIt {r : Addr} {lo hi : Int} {t u q : Tok} {Q : Value → Shared → Prop} (W : WW w b mg mb bm ob) (st : St b s) (hr : IsRange s.heap r lo hi 1 t u q) (h1 : -1000000 ≤ lo) (h2 : lo ≤ 1000000) (h3 : -1000000 ≤ hi) (h4 : hi ≤ 1000000)
    (hq : ∀ I J s', Nx b [] s s' → Itr w b I (rng lo hi) J → J B 0 s'.heap → s.heap.objs.size ≤ I → Q (.ref I) s') : wpAny (model PW w) A (pyIter (.ref r)) Q E s := by
  have hsm := small_one (a := lo) (b := hi) (by omega) (by omega) (by omega) (by omega)
  refine wpAny_pyIter_range hr hsm ?_
  have hn : Builtin.Range.rangeSize lo hi 1 = (((hi - lo).toNat : Nat) : Int) := by rw [rangeSize_one]; split <;> omega
  rw [hn]
  have gI := st.lt W
  have fI := st.fresh (Nat.le_refl s.heap.objs.size)
  have hlen : (rng lo hi).length = (hi - lo).toNat := by simp [rng]
  refine hq _ (fun _ i h => IsRangeIter h s.heap.objs.size (lo + (i : Nat) * 1) (((hi - lo).toNat : Int) - (i : Nat)) 1) _ (Nx.push st) (Itr.solo (P := fun i v => ∃ t, v = .int (lo + (i : Int) * 1) t) gI fI (fun A hA => ?_) ?_ ?_ ?_) ?_ (Nat.le_refl _)
  · rw [hlen]; exact Walks.range hA _ lo 1 _
  · rintro i v p ⟨u, rfl⟩ hp B h
    simp only [rng, List.getElem?_map] at hp
    cases hp' : (List.range (hi - lo).toNat)[i]? with
    | none => rw [hp'] at hp; cases hp
    | some j =>
      rw [hp'] at hp
      have : j = i := by
        obtain ⟨hlt, e⟩ := List.getElem?_eq_some_iff.mp hp'
        simpa using e.symm
      subst this
      cases hp
      exact ⟨u, by rw [Int.mul_one]⟩
  · rintro i h e
    exact ⟨_, "range_iterator", e, ⟨_, rfl, fun x t q => by simp [rawInt] at q⟩, rfl, by decide⟩
  · intro A i s1 Q E h hq
    exact wpAny_pyIter_rangeiter h hq
  · show IsRangeIter _ _ _ _ _
    simpa using Heap.get?_push_size _ rfl

theorem IE.range1 {p1 pos : Pos} {e : Expr} {n : Int} (W : WW w b mg mb bm ob) (h : EV w b A env G e (intV n)) (h3 : -1000000 ≤ n) (h4 : n ≤ 1000000)
    (hx : env.kindOf "range" = some .globalImplicit := by rfl) (he : starEach [e] env = (false, eval e env) :: starEach [] env := by rfl)
    (hev : eval (.Call (.Name "range" p1) [e] [] pos) env = (do callWith pos (← eval (.Name "range" p1) env) [] (backTo pos (starEach [e] env)) (backToKw pos (keywordEach [] env))) := by rfl) :
    IE w b A env G (.Call (.Name "range" p1) [e] [] pos) (rng 0 n) := fun O B s₀ s Q E F hq =>
  Call_ (nm_bi W F.st (show bootBuiltins "range" = some (.type "range") from rfl) (PyProof.Rows.callWith_type1 (spliced_more (h O B s₀ s _ _ F fun v s1 N1 ⟨t, e1⟩ => spliced_none (by
    subst e1
    have N2 := Nx.push (N1.st.toks (k := s1.toks + 1 + 1)) (o := { cls := .type "range", data := .fields #[.int 0 s1.toks, .int n t, .int 1 (s1.toks + 1)] })
    exact call_range_1 (rangeIt W N2.st (IsRange.new ..) (by decide) (by decide) h3 h4 fun I J s3 N3 it j0 hI => hq I J s3 (((N1.toks).tr N2).tr N3) it j0 (Nat.le_trans N1.sz (Nat.le_trans N2.sz hI))))) he) he (by rfl)) (by kernel_rfl) F.ks hx F.gl F.bl (by decide) (by decide)) hev
theorem IE.range2 {p1 pos : Pos} {e e' : Expr} {lo n : Int} (W : WW w b mg mb bm ob) (h' : EV w b A env G e (intV lo)) (h : EV w b A env G e' (intV n)) (h1 : -1000000 ≤ lo) (h2 : lo ≤ 1000000) (h3 : -1000000 ≤ n) (h4 : n ≤ 1000000)
    (hx : env.kindOf "range" = some .globalImplicit := by rfl) (he : starEach [e, e'] env = (false, eval e env) :: starEach [e'] env := by rfl) (he' : starEach [e'] env = (false, eval e' env) :: starEach [] env := by rfl)
    (hev : eval (.Call (.Name "range" p1) [e, e'] [] pos) env = (do callWith pos (← eval (.Name "range" p1) env) [] (backTo pos (starEach [e, e'] env)) (backToKw pos (keywordEach [] env))) := by rfl)
    (hplain : (backTo pos (starEach [e'] env)).any (·.1) = false := by rfl) :
    IE w b A env G (.Call (.Name "range" p1) [e, e'] [] pos) (rng lo n) := fun O B s₀ s Q E F hq =>
  Call_ (nm_bi W F.st (show bootBuiltins "range" = some (.type "range") from rfl) (PyProof.Rows.callWith_type1 (spliced_more (h' O B s₀ s _ _ F fun v' s0 N0 ⟨t', e0⟩ => spliced_more (h O B s₀ s0 _ _ (F.step N0) fun v s1 N1 ⟨t, e1⟩ => spliced_none (by
    subst e1 e0
    have N2 := Nx.push (N1.st.toks (k := s1.toks + 1)) (o := { cls := .type "range", data := .fields #[.int lo t', .int n t, .int 1 s1.toks] })
    exact call_range_2 (rangeIt W N2.st (IsRange.new ..) h1 h2 h3 h4 fun I J s3 N3 it j0 hI => hq I J s3 (((N0.tr N1).toks).tr N2 |>.tr N3) it j0 (Nat.le_trans N0.sz (Nat.le_trans N1.sz (Nat.le_trans N2.sz hI)))))) he') he) he hplain) (by kernel_rfl) F.ks hx F.gl F.bl (by decide) (by decide)) hev
end
end Mine
end -- V2
section -- V3
/-! the inner frame of a comprehension -/
set_option maxRecDepth 100000
namespace Mine
open PySem PySem.W PySem.Calls PyProof.Rows Builtin
set_option maxHeartbeats 400000

noncomputable def clOf : List (Str × NameKind) → List (Str × Addr) → List (Str × Addr) → List (Str × Addr)
  | [], _, acc => acc
  | (n, k) :: r, cells, acc => if k == .free then (match cells.lookup n with | some c => clOf r cells ((n, c) :: acc) | none => clOf r cells acc) else clOf r cells acc
theorem closure_eq {env : Env} : ∀ (names : List (Str × NameKind)) (acc : List (Str × Addr)), (∀ n ∈ names, n.2 = .free → (env.cells.lookup n.1).isSome = true) →
    (forIn names acc fun (x : Str × NameKind) (cs : List (Str × Addr)) => (do if x.2 == .free then (do let a ← cellOf env x.1; pure (ForInStep.yield ((x.1, a) :: cs))) else pure (ForInStep.yield cs) : Sem (ForInStep (List (Str × Addr))))) = pure (clOf names env.cells acc)
  | [], acc, _ => rfl
  | (n, k) :: r, acc, h => by
    have ih := fun acc => closure_eq (env := env) r acc fun m hm => h m (.tail _ hm)
    rw [List.forIn_cons]
    unfold clOf
    by_cases hk : (k == NameKind.free) = true
    · obtain ⟨c, hc⟩ := Option.isSome_iff_exists.mp (h (n, k) (.head _) (by simpa using hk))
      have e : cellOf env n = pure c := by unfold cellOf; rw [hc]
      simp only [hk, if_true, e, pure_bind, hc]
      exact ih _
    · simp only [hk, Bool.false_eq_true, if_false, pure_bind]
      exact ih _
theorem closureFor_eq {env : Env} {scope : Scope} (h : ∀ n ∈ scope.names, n.2 = .free → (env.cells.lookup n.1).isSome = true) : closureFor scope env = pure (clOf scope.names env.cells []) := by
  unfold closureFor
  have := closure_eq (env := env) scope.names [] h
  simp only [bind_pure] at this ⊢
  exact this

theorem clOf_mem : ∀ {names : List (Str × NameKind)} {cells acc : List (Str × Addr)} {y : Str} {c : Addr}, (y, c) ∈ clOf names cells acc → (y, c) ∈ acc ∨ cells.lookup y = some c
  | [], _, _, _, _, h => .inl h
  | (n, k) :: r, cells, acc, y, c, h => by
    unfold clOf at h
    split at h
    · split at h
      · rename_i d hd
        rcases clOf_mem h with h | h
        · rcases List.mem_cons.mp h with h | h
          · cases h; exact .inr hd
          · exact .inl h
        · exact .inr h
      · exact clOf_mem h
    · exact clOf_mem h
theorem clOf_has : ∀ {names : List (Str × NameKind)} {cells acc : List (Str × Addr)} {y : Str} {c : Addr}, ((y, NameKind.free) ∈ names ∨ (y, c) ∈ acc) → cells.lookup y = some c → (y, c) ∈ clOf names cells acc
  | [], _, _, _, _, h, _ => by rcases h with h | h; cases h; exact h
  | (n, k) :: r, cells, acc, y, c, h, hc => by
    unfold clOf
    split
    · rename_i hk
      split
      · rename_i d hd
        refine clOf_has ?_ hc
        rcases h with h | h
        · rcases List.mem_cons.mp h with h | h
          · cases h; rw [hc] at hd; cases hd; exact .inr (.head _)
          · exact .inl h
        · exact .inr (.tail _ h)
      · rename_i hd
        refine clOf_has ?_ hc
        rcases h with h | h
        · rcases List.mem_cons.mp h with h | h
          · cases h; rw [hc] at hd; cases hd
          · exact .inl h
        · exact .inr h
    · rename_i hk
      refine clOf_has ?_ hc
      rcases h with h | h
      · rcases List.mem_cons.mp h with h | h
        · cases h; simp at hk
        · exact .inl h
      · exact .inr h

theorem cellsFrom_acc : ∀ (names : List (Str × NameKind)) (n : Nat) (acc : List (Str × Addr)), cellsFrom n names acc = cellsFrom n names [] ++ acc
  | [], _, _ => rfl
  | (x, k) :: r, n, acc => by
    unfold cellsFrom
    split
    · rw [cellsFrom_acc r (n + 1) ((x, n) :: acc), cellsFrom_acc r (n + 1) [(x, n)], List.append_assoc]; rfl
    · exact cellsFrom_acc r n acc
theorem cellsFrom_mem : ∀ {names : List (Str × NameKind)} {n : Nat} {acc : List (Str × Addr)} {y : Str} {c : Addr}, (y, c) ∈ cellsFrom n names acc → (y, c) ∈ acc ∨ (y, NameKind.cell) ∈ names
  | [], _, _, _, _, h => .inl h
  | (x, k) :: r, n, acc, y, c, h => by
    unfold cellsFrom at h
    split at h
    · rename_i hk
      rcases cellsFrom_mem h with h | h
      · rcases List.mem_cons.mp h with h | h
        · cases h
          have hk' : k = NameKind.cell := by simpa using hk
          subst hk'
          exact .inr (.head _)
        · exact .inl h
      · exact .inr (.tail _ h)
    · exact (cellsFrom_mem h).imp id fun h => .tail _ h
theorem pushCells_size : ∀ (names : List (Str × NameKind)) (h : Heap), h.objs.size ≤ (pushCells h names).objs.size
  | [], _ => Nat.le_refl _
  | (_, k) :: r, h => by
    unfold pushCells
    split
    · exact Nat.le_trans (by rw [Heap.size_push]; exact Nat.le_succ _) (pushCells_size r _)
    · exact pushCells_size r h

/-- the inner frame -/
noncomputable def inner (scope : Scope) (C : Addr) (env : Env) : Env :=
  { scope := relabel scope env, locals := C, globals := env.globals, cells := cellsFrom (C + 1) scope.names (clOf scope.names env.cells []), qual := env.qual, func := none, code := env.code, frame := env.frame, builtins := env.builtins }

section
variable {w : World} {A : Around} {E : Value → Shared → Prop} {s s₀ : Shared} {b : Heap} {mg mb : Str → Option Value} {bm : Addr} {ob : Obj} {env : Env} {G : List (Str × VP)} {B : List Addr} {O : List Str}

theorem nfe {scope : Scope} {cl : List (Str × Addr)} {globals : Addr} {qual : Str} {Q : Env → Shared → Prop}
    (h : Q { scope, locals := s.heap.objs.size, globals, cells := cellsFrom (s.heap.objs.size + 1) scope.names cl, qual, func := none, code := env.code, frame := env.frame, builtins := env.builtins }
      { s with heap := pushCells (s.heap.push { cls := .type "dict", data := .dict #[] }) scope.names }) :
    wpAny (model PW w) A (newFunctionEnv scope globals cl [] qual none .none (some env)) Q E s := by
  simp only [newFunctionEnv, Option.isSome_some, if_true]
  refine wpAny_bind (wpAny_alloc ?_)
  refine wpAny_bind (wpAny_layCells _ (fun name kind cells => by cases hkc : kind == NameKind.cell <;> simp [hkc]) _ _ _ _ ?_)
  simp only [List.forIn_nil]
  rw [show ({ s with heap := s.heap.push { cls := .type "dict", data := .dict #[] } } : Shared).heap.objs.size = s.heap.objs.size + 1 from Heap.size_push ..]
  exact wpAny_bind (wpAny_pure (wpAny_pure h))

/-- the variables of a comprehension that come from outside -/
noncomputable def Caps (scope : Scope) (env : Env) (G : List (Str × VP)) : List (Str × VP) → Prop
  | [] => True
  | p :: r => ((scope.names.lookup p.1 = some .free ∧ G.lookup p.1 = some p.2) ∧ (env.kindOf p.1 = some .cell ∨ env.kindOf p.1 = some .free)) ∧ Caps scope env G r
theorem Caps.get {scope : Scope} : ∀ {G' : List (Str × VP)}, Caps scope env G G' → ∀ {y P}, G'.lookup y = some P → (scope.names.lookup y = some .free ∧ G.lookup y = some P) ∧ (env.kindOf y = some .cell ∨ env.kindOf y = some .free)
  | p :: r, c, y, P, h => by
    rw [List.lookup_cons] at h
    by_cases hy : y = p.1
    · subst hy; simp at h; subst h; exact c.1
    · have : (y == p.1) = false := by simpa using hy
      rw [this] at h
      exact Caps.get c.2 h

theorem lookup_relabel_free {names : List (Str × NameKind)} {y : Str} (h : names.lookup y = some .free) :
    (names.map fun (n, k) => if (k == NameKind.free && env.scope.kind == .function && env.kindOf n == some .cell) then (n, NameKind.cell) else (n, k)).lookup y = some .cell ∨
    (names.map fun (n, k) => if (k == NameKind.free && env.scope.kind == .function && env.kindOf n == some .cell) then (n, NameKind.cell) else (n, k)).lookup y = some .free := by
  induction names with
  | nil => simp at h
  | cons p r ih =>
    obtain ⟨n, k⟩ := p
    rw [List.map_cons]
    cases hx : y == n with
    | true =>
      simp only [List.lookup_cons, hx] at h
      cases h
      dsimp only
      split <;> simp [List.lookup_cons, hx]
    | false =>
      simp only [List.lookup_cons, hx] at h
      dsimp only
      split <;> simp only [List.lookup_cons, hx] <;> exact ih h
theorem lookup_own {names : List (Str × NameKind)} {n : Nat} {cl : List (Str × Addr)} {y : Str} (h : (y, NameKind.cell) ∉ names) : (cellsFrom n names cl).lookup y = cl.lookup y := by
  rw [cellsFrom_acc]
  have : ∀ c, (y, c) ∉ cellsFrom n names [] := fun c hc => by
    rcases cellsFrom_mem hc with q | q
    · cases q
    · exact h q
  generalize cellsFrom n names [] = l at this
  induction l with
  | nil => rfl
  | cons p r ih =>
    obtain ⟨x, a⟩ := p
    rw [List.cons_append, List.lookup_cons]
    have hne : (y == x) = false := by
      rw [beq_eq_false_iff_ne]; rintro rfl; exact this a (.head _)
    rw [hne]
    exact ih fun c hc => this c (.tail _ hc)
theorem lookup_of_mem {l : List (Str × Addr)} {y : Str} {c : Addr} (h : (y, c) ∈ l) (hu : ∀ d, (y, d) ∈ l → d = c) : l.lookup y = some c := by
  induction l with
  | nil => cases h
  | cons p r ih =>
    obtain ⟨x, a⟩ := p
    rw [List.lookup_cons]
    cases hx : y == x with
    | true =>
      have : y = x := by simpa using hx
      subst this
      rw [hu a (.head _)]
    | false =>
      rcases List.mem_cons.mp h with q | q
      · cases q; simp at hx
      · exact ih q fun d hd => hu d (.tail _ hd)
theorem names_apart : ∀ {names : List (Str × NameKind)} {y : Str}, names.lookup y = some .free → (names.map (·.1)).Nodup → (y, NameKind.cell) ∉ names
  | (n, k) :: r, y, h, nd, hm => by
    rw [List.map_cons, List.nodup_cons] at nd
    rw [List.lookup_cons] at h
    cases hx : y == n with
    | true =>
      rw [hx] at h
      cases h
      have : y = n := by simpa using hx
      subst this
      rcases List.mem_cons.mp hm with q | q
      · cases q
      · exact nd.1 (List.mem_map_of_mem (f := (·.1)) q)
    | false =>
      rw [hx] at h
      rcases List.mem_cons.mp hm with q | q
      · cases q; simp at hx
      · exact names_apart h nd.2 q
theorem mem_of_lookup_names : ∀ {names : List (Str × NameKind)} {y : Str} {k}, names.lookup y = some k → (y, k) ∈ names
  | (n, k) :: r, y, k', h => by
    rw [List.lookup_cons] at h
    cases hx : y == n with
    | true =>
      rw [hx] at h
      cases h
      have : y = n := by simpa using hx
      subst this
      exact .head _
    | false => rw [hx] at h; exact .tail _ (mem_of_lookup_names h)

/-- the inner frame at its start: s₂ the state ahead, s' behind the new names -/
theorem inner_start {scope : Scope} {G' : List (Str × VP)} {O' : List Str} (F : Fm b O B env s₀ G s) (W : WW w b mg mb bm ob) (hk : scope.kind = .function) (nd : (scope.names.map (·.1)).Nodup)
    (hc : Caps scope env G G') (hO : ∀ x ∈ O', ((cellsFrom (s.heap.objs.size + 1) scope.names []).lookup x).isSome = true) :
    Fm b O' B (inner scope s.heap.objs.size env) s G' { s with heap := pushCells (s.heap.push { cls := .type "dict", data := .dict #[] }) scope.names } ∧
    Nx b [] s { s with heap := pushCells (s.heap.push { cls := .type "dict", data := .dict #[] }) scope.names } := by
  have hkeep : ∀ c o, s.heap.get? c = some o → (pushCells (s.heap.push { cls := .type "dict", data := .dict #[] }) scope.names).get? c = some o := fun c o e => pushCells_keeps _ _ _ _ (Heap.get?_push_of_some _ e)
  have hsz : s.heap.objs.size + 1 ≤ (pushCells (s.heap.push { cls := .type "dict", data := .dict #[] }) scope.names).objs.size := Nat.le_trans (by rw [Heap.size_push]; exact Nat.le_refl _) (pushCells_size scope.names _)
  have N : Nx b [] s { s with heap := pushCells (s.heap.push { cls := .type "dict", data := .dict #[] }) scope.names } := Nx.all F.st hkeep rfl rfl rfl (Nat.le_of_succ_le hsz)
  have ok := cellsFrom_ok scope.names (s.heap.push { cls := .type "dict", data := .dict #[] }) (s.heap.objs.size + 1) [] ⟨fun _ _ hm => (nomatch hm), List.Pairwise.nil⟩ (by rw [Heap.size_push]; exact Nat.le_refl _)
  rw [Heap.size_push] at ok
  have gs := F.st.lt W
  have hcl : ∀ y c, (y, c) ∈ clOf scope.names env.cells [] → env.cells.lookup y = some c := fun y c h => (clOf_mem h).resolve_left (fun h => nomatch h)
  have hmem : ∀ y c, (inner scope s.heap.objs.size env).cells.lookup y = some c → (y, c) ∈ cellsFrom (s.heap.objs.size + 1) scope.names [] ∨ env.cells.lookup y = some c := fun y c h => by
    have h1 := mem_of_lookup h
    change (y, c) ∈ cellsFrom _ _ _ at h1
    rw [cellsFrom_acc] at h1
    rcases List.mem_append.mp h1 with h | h
    · exact .inl h
    · exact .inr (hcl y c h)
  refine ⟨⟨N, hk, F.gl, F.bl, gs, Nat.le_refl _, fun a ha => F.st.fresh ha, fun d hd => Nat.lt_of_lt_of_le (F.lB d hd) N.sz, fun y c h => ?_, fun x hx => ?_, ?_⟩, N⟩
  · rcases hmem y c h with h | h
    · obtain ⟨h1, h2⟩ := ok.empty y c h
      exact ⟨h1.lt, Nat.lt_of_lt_of_le (Nat.lt_succ_of_lt gs) h2⟩
    · obtain ⟨h1, h2⟩ := F.lc y c h
      exact ⟨Nat.lt_of_lt_of_le h1 N.sz, h2⟩
  · obtain ⟨c, hx'⟩ := Option.isSome_iff_exists.mp (hO x hx)
    have hm := mem_of_lookup hx'
    obtain ⟨h1, h2⟩ := ok.empty x c hm
    refine ⟨c, ?_, Nat.le_of_succ_le h2, ⟨_, h1⟩, fun y hy => ?_⟩
    · show (cellsFrom _ _ _).lookup x = some c
      rw [cellsFrom_acc]
      clear hO h1 h2 hm
      generalize cellsFrom (s.heap.objs.size + 1) scope.names [] = l at hx'
      induction l with
      | nil => cases hx'
      | cons p r ih =>
        obtain ⟨z, a⟩ := p
        rw [List.cons_append, List.lookup_cons]
        rw [List.lookup_cons] at hx'
        cases hz : x == z with
        | true => rw [hz] at hx'; exact hx'
        | false => rw [hz] at hx'; exact ih hx'
    · rcases hmem y c hy with h | h
      · exact name_of_addr ok.apart h hm
      · exact absurd (F.lc y c h).1 (Nat.not_lt.mpr (Nat.le_of_succ_le h2))
  · obtain ⟨m, hn, hv⟩ := F.vars
    refine ⟨fun _ => none, ?_, fun y P e => ?_⟩
    · exact (Heap.Ns.new s.heap (.type "dict")).keeps (pushCells_keeps _ _)
    · obtain ⟨⟨h1, h2⟩, h3⟩ := hc.get e
      obtain ⟨v, hp, hh⟩ := hv y P h2
      refine ⟨v, P.st (Mv.of0 N) hp, .inr ⟨lookup_relabel_free h1, ?_⟩⟩
      rcases hh with ⟨hl, _⟩ | ⟨hk', c, hc', g, hcell⟩
      · rcases h3 with h3 | h3 <;> rw [hl] at h3 <;> cases h3
      · refine ⟨c, ?_, g, hcell.keeps hkeep⟩
        show (cellsFrom _ _ _).lookup y = some c
        rw [lookup_own (names_apart h1 nd)]
        refine lookup_of_mem (clOf_has (.inl (mem_of_lookup_names h1)) hc') fun d hd => ?_
        have := hcl y d hd
        rw [hc'] at this
        exact (Option.some.inj this).symm
end
end Mine
end -- V3
section -- V4
/-! list comprehensions -/
set_option maxRecDepth 100000
namespace Mine
open PySem PySem.W PySem.Calls PyProof.Rows Builtin
set_option maxHeartbeats 400000

section
variable {w : World} {A : Around} {E : Value → Shared → Prop} {s s₀ : Shared} {b : Heap} {mg mb : Str → Option Value} {bm : Addr} {ob : Obj} {env : Env} {G : List (Str × VP)} {B : List Addr} {O : List Str}

theorem Fm.rebase {s₁ : Shared} (F : Fm b O B env s₀ G s) (st : St b s₁) (N : Nx b [] s₁ s₀) : Fm b O B env s₁ G s :=
  ⟨N.tr F.nx, F.ks, F.gl, F.bl, F.gL, Nat.le_trans N.sz F.fL, fun a ha => st.fresh ha, F.lB, F.lc, fun x hx => let ⟨c, h1, h2, r⟩ := F.own x hx; ⟨c, h1, Nat.le_trans N.sz h2, r⟩, F.vars⟩

/-- a step that changes addresses of neither the names nor a cell -/
theorem Fm.stepX {X : List Addr} {s' : Shared} (F : Fm b O B env s₀ G s) (N : Nx b X s s') (h : ∀ a ∈ X, ¬ Wr s a ∧ s₀.heap.objs.size ≤ a ∧ (a ∈ B ∨ ∀ o, s.heap.get? a = some o → ∀ its n, o.data ≠ .seq its n)) : Fm b O B env s₀ G s' := by
  have M : Mv b B s s' := ⟨X, N, fun a ha => (h a ha).2.2⟩
  have hcell : ∀ c v, s.heap.IsCell c v → 232 < c → s'.heap.IsCell c v := fun c v hc g => cell_nx hc N g (fun q => (h c q).1 (.inr ⟨v, hc⟩))
  refine ⟨F.nx.trans N (fun _ q => nomatch q) (fun a ha => .inr (h a ha).2.1), F.ks, F.gl, F.bl, F.gL, F.fL, F.bf, fun d hd => Nat.lt_of_lt_of_le (F.lB d hd) N.sz, F.lc' N.sz, F.own' hcell, ?_⟩
  obtain ⟨m, hn, hv⟩ := F.vars
  refine ⟨m, ns_nx hn N F.gL (fun q => (h _ q).1 (.inl ⟨m, hn⟩)), fun x P e => ?_⟩
  obtain ⟨v, hp, hh⟩ := hv x P e
  refine ⟨v, P.st M hp, ?_⟩
  rcases hh with hh | ⟨hk, c, hc, g, hcl⟩
  · exact .inl hh
  · exact .inr ⟨hk, c, hc, g, hcell c _ hcl g⟩

theorem not_wr_fields {a : Addr} {o : Obj} {vs} (e : s.heap.get? a = some o) (hd : o.data = .fields vs) : ¬ Wr s a := fun x => x.nofld e hd
theorem not_wr_seq {a : Addr} {o : Obj} {vs n} (e : s.heap.get? a = some o) (hd : o.data = .seq vs n) : ¬ Wr s a := fun x => x.noseq o e vs n hd
theorem noseq_fields {a : Addr} {o : Obj} {vs} (e : s.heap.get? a = some o) (hd : o.data = .fields vs) : ∀ o, s.heap.get? a = some o → ∀ its n, o.data ≠ .seq its n := fun o' e' its n hd' => by
  rw [e] at e'; cases e'; rw [hd] at hd'; cases hd'

/-- what the turn i puts into the list -/
noncomputable def outs (R : Nat → Option VP) (n : Nat) : List VP := (List.range n).filterMap R
theorem outs_succ (R : Nat → Option VP) (n : Nat) : outs R (n + 1) = outs R n ++ (match R n with | some P => [P] | none => []) := by
  unfold outs
  rw [List.range_succ, List.filterMap_append]
  congr 1
  cases h : R n <;> simp [h]
theorem outs_le (R : Nat → Option VP) (n : Nat) : (outs R n).length ≤ n := by
  unfold outs
  exact Nat.le_trans (List.length_filterMap_le _ _) (by simp)

/-- a comprehension of one source: the loop -/
theorem comp_loop {elt iter : Expr} {x : Str} {px : Pos} {ifs : List Expr} {scope : Scope} {pos : Pos} {I D : Addr} {Ps : List VP} {J : List Addr → Nat → Heap → Prop} {ce : Env} {R : Nat → Option VP} {RR : Result → Shared → Prop}
    (hA : A.handled = none) (it : Itr w b I Ps J) (F : Fm b O (D :: B) ce s₀ G s) (fI : s₀.heap.objs.size ≤ I) (fD : s₀.heap.objs.size ≤ D) (gD : 232 < D)
    (hx : ce.kindOf x = some .local ∨ (ce.kindOf x = some .cell ∧ x ∈ O)) (hGx : G.lookup x = none) (hj : J (D :: B) 0 s.heap) (hD : s.heap.PlainList D #[]) (hsz : Ps.length ≤ 100000)
    (turn : ∀ i P, Ps[i]? = some P → (ifs = [] ∧ ∃ Rp, R i = some Rp ∧ EV w b A ce ((x, P) :: G) elt Rp) ∨
      (∃ c pass, ifs = [c] ∧ TV w b A ce ((x, P) :: G) c pass ∧ (pass = false → R i = none) ∧ (pass = true → ∃ Rp, R i = some Rp ∧ EV w b A ce ((x, P) :: G) elt Rp)))
    (hR : ∀ s' ys, Fm b O (D :: B) ce s₀ G s' → s'.heap.PlainList D ys → AllR (D :: B) s'.heap (outs R Ps.length) ys.toList → RR (.ok .next) s') :
    codeAny (model PW w) A (.compLoop (.ListComp elt [⟨.Name x px, iter, ifs, 0⟩] scope pos) 0 (.ref I) (.ref D) ce) RR s := by
  refine codeAny_compLoop_tests (fun n s' => ∃ i ys, n = Ps.length + 1 - i ∧ i ≤ Ps.length ∧ Fm b O (D :: B) ce s₀ G s' ∧ J (D :: B) i s'.heap ∧ s'.heap.PlainList D ys ∧ AllR (D :: B) s'.heap (outs R i) ys.toList) ?_ (Ps.length + 1)
    ⟨0, #[], rfl, Nat.zero_le _, F, hj, hD, trivial⟩
  rintro n s1 ⟨i, ys, rfl, hi, F1, j1, hD1, hy1⟩
  have stepI : ∀ {s s' : Shared} {i : Nat}, Fm b O (D :: B) ce s₀ G s → J (D :: B) i s.heap → Nx b [I] s s' → Fm b O (D :: B) ce s₀ G s' := fun F hj N => by
    obtain ⟨o, e, vs, hd⟩ := it.live hj
    exact F.stepX N fun a ha => by rw [List.mem_singleton.mp ha]; exact ⟨not_wr_fields e hd, fI, .inr (noseq_fields e hd)⟩
  have neID : ∀ {s : Shared} {i : Nat} {ys : Array Value}, J (D :: B) i s.heap → s.heap.PlainList D ys → D ≠ I := fun hj ⟨n, e⟩ q => by
    obtain ⟨o, e', vs, hd⟩ := it.live hj
    rw [← q, e] at e'; cases e'; cases hd
  have hne := neID j1 hD1
  have plN : ∀ {X : List Addr} {s s' : Shared} {ys : Array Value}, s.heap.PlainList D ys → Nx b X s s' → D ∉ X → s'.heap.PlainList D ys := fun ⟨n, e⟩ N h => ⟨n, N.kp _ _ (notab_of gD) h e⟩
  by_cases hlt : i < Ps.length
  · have hP : Ps[i]? = some Ps[i] := List.getElem?_eq_getElem hlt
    refine it.item hA hP F1.st j1 fun v s2 N2 j2 p2 => ?_
    have F2 := stepI F1 j1 N2
    have hD2 := plN hD1 N2 (fun q => hne (List.mem_singleton.mp q))
    have hIn : ∀ o, s1.heap.get? I = some o → ∀ its n, o.data ≠ .seq its n := by
      obtain ⟨o, e, vs, hd⟩ := it.live j1
      exact noseq_fields e hd
    have hy2 := hy1.st (Mv.of1 N2 hIn)
    refine wpAny_assign_Name (F2.set p2 hx fun a s3 N3 wr F3 => ?_)
    have hDa : D ≠ a := fun q => by
      obtain ⟨n, e⟩ := hD2
      exact wr.noseq _ (q ▸ e) _ _ rfl
    have hIa : I ≠ a := fun q => by
      obtain ⟨o, e, vs, hd⟩ := it.live j2
      exact wr.nofld (q ▸ e) hd
    have j3 := it.frame j2 N3 (fun q => hIa (List.mem_singleton.mp q)) fun c hc => .inr (by rw [List.mem_singleton.mp hc]; exact wr.noseq)
    have hD3 := plN hD2 N3 (fun q => hDa (List.mem_singleton.mp q))
    have hy3 := hy2.st (Mv.of1 N3 wr.noseq)
    have done : ∀ (s5 : Shared) (Rp : VP) (y : Value) (Q' : Value → Shared → Prop) E', R i = some Rp → Nx b [] s3 s5 → Rp.p (D :: B) y s5.heap →
        (∀ u s6, (∃ i' ys, Ps.length + 1 - (i + 1) = Ps.length + 1 - i' ∧ i' ≤ Ps.length ∧ Fm b O (D :: B) ce s₀ G s6 ∧ J (D :: B) i' s6.heap ∧ s6.heap.PlainList D ys ∧ AllR (D :: B) s6.heap (outs R i') ys.toList) → Q' u s6) → wpAny (model PW w) A (call (.builtin "list.append") [.ref D, y]) Q' E' s5 := by
      intro s5 Rp y Q' E' hRi N5 p5 hq
      have F5 := F3.step N5
      have j5 := it.frame j3 N5 (List.not_mem_nil) fun c hc => nomatch hc
      have hD5 := plN hD3 N5 List.not_mem_nil
      have hy5 := hy3.st (Mv.of0 N5)
      have hlen := hy5.len
      rw [Array.length_toList] at hlen
      have hol := outs_le R i
      refine wpAny_list_append_plain (hsz := Nat.le_trans (le_chain hlen hol hlt hsz) (by decide)) hD5 fun h6 hD6 hs6 => ?_
      have N6 : Nx b [D] s5 { s5 with heap := h6, toks := s5.toks } := Nx.same F5.st hs6 gD (F5.bf _ fD) (let ⟨_, e⟩ := hD5; NC.seq e rfl)
      have M6 : Mv b (D :: B) s5 { s5 with heap := h6, toks := s5.toks } := Mv.ofB N6 (.head _)
      refine hq _ _ ⟨i + 1, ys.push y, rfl, hlt, ?_, ?_, hD6, ?_⟩
      · refine (F5.sub (G' := G) ?_).stepX N6 fun c hc => ?_
        · intro y P' e
          rw [List.lookup_cons]
          by_cases hy : y = x
          · subst hy; rw [hGx] at e; cases e
          · have : (y == x) = false := by simpa using hy
            rw [this]; exact e
        · obtain ⟨n5, e5⟩ := hD5
          rw [List.mem_singleton.mp hc]
          exact ⟨not_wr_seq e5 rfl, fD, .inl (.head _)⟩
      · exact it.frame j5 N6 (fun q => hne (List.mem_singleton.mp q).symm) fun c hc => .inl (by rw [List.mem_singleton.mp hc]; exact .head _)
      · rw [outs_succ, hRi, Array.toList_push]
        exact (hy5.st M6).snoc (Rp.st M6 p5)
    have skip : R i = none → ∀ s5, Nx b [] s3 s5 → ∃ m, m < Ps.length + 1 - i ∧ ∃ i' ys, m = Ps.length + 1 - i' ∧ i' ≤ Ps.length ∧ Fm b O (D :: B) ce s₀ G s5 ∧ J (D :: B) i' s5.heap ∧ s5.heap.PlainList D ys ∧ AllR (D :: B) s5.heap (outs R i') ys.toList := by
      intro hRi s5 N5
      refine ⟨Ps.length + 1 - (i + 1), sub_step hlt, i + 1, ys, rfl, hlt, ((F3.step N5).sub (G' := G) ?_), it.frame j3 N5 (List.not_mem_nil) (fun c hc => nomatch hc), plN hD3 N5 List.not_mem_nil, ?_⟩
      · intro y P' e
        rw [List.lookup_cons]
        by_cases hy : y = x
        · subst hy; rw [hGx] at e; cases e
        · have : (y == x) = false := by simpa using hy
          rw [this]; exact e
      · rw [outs_succ, hRi, List.append_nil]; exact hy3.st (Mv.of0 N5)
    rcases turn i _ hP with ⟨rfl, Rp, hRi, hE⟩ | ⟨c, pass, rfl, hT, hno, hyes⟩
    · refine wpAny_tests_nil ?_
      rw [if_pos rfl]
      exact hE O (D :: B) s₀ s3 _ _ F3 fun y s4 N4 p4 => done s4 Rp y _ _ hRi N4 p4 fun _ s6 h => ⟨_, sub_step hlt, h⟩
    · refine wpAny_tests_one (hT O (D :: B) s₀ s3 _ _ F3 fun s4 N4 => ?_)
      cases pass with
      | false =>
        rw [if_neg (by decide)]
        exact skip (hno rfl) s4 N4
      | true =>
        rw [if_pos rfl]
        obtain ⟨Rp, hRi, hE⟩ := hyes rfl
        exact hE O (D :: B) s₀ s4 _ _ (F3.step N4) fun y s5 N5 p5 => done s5 Rp y _ _ hRi (N4.tr N5) p5 fun _ s6 h => ⟨_, sub_step hlt, h⟩
  · have : i = Ps.length := Nat.le_antisymm hi (Nat.not_lt.mp hlt)
    subst this
    refine it.done hA F1.st j1 fun s2 N2 => ?_
    have hIn : ∀ o, s1.heap.get? I = some o → ∀ its n, o.data ≠ .seq its n := by
      obtain ⟨o, e, vs, hd⟩ := it.live j1
      exact noseq_fields e hd
    exact hR s2 ys (stepI F1 j1 N2) (plN hD1 N2 (fun q => hne (List.mem_singleton.mp q))) (hy1.st (Mv.of1 N2 hIn))

/-- one source: from behind iter() to the loop's end -/
theorem comp1_core {elt iter : Expr} {x : Str} {px : Pos} {ifs : List Expr} {scope : Scope} {pos : Pos} {Ps : List VP} {R : Nat → Option VP} {G' : List (Str × VP)} {O' : List Str} {I : Addr} {J : List Addr → Nat → Heap → Prop} {s₁ : Shared} {RR : Value → Addr → Result → Shared → Prop}
    (W : WW w b mg mb bm ob) (hA : A.handled = none) (F : Fm b O B env s₀ G s) (st₁ : St b s₁) (N₁ : Nx b [] s₁ s) (it : Itr w b I Ps J) (hj : J B 0 s.heap) (fI : s₁.heap.objs.size ≤ I)
    (hk : scope.kind = .function) (nd : (scope.names.map (·.1)).Nodup) (hc : Caps scope env G G') (hO : ∀ C : Addr, ∀ y ∈ O', ((cellsFrom (C + 1) scope.names []).lookup y).isSome = true)
    (hx : (relabel scope env).names.lookup x = some .local ∨ ((relabel scope env).names.lookup x = some .cell ∧ x ∈ O')) (hGx : G'.lookup x = none) (hsz : Ps.length ≤ 100000)
    (turn : ∀ (C : Addr) i P, Ps[i]? = some P → (ifs = [] ∧ ∃ Rp, R i = some Rp ∧ EV w b A (inner scope C env) ((x, P) :: G') elt Rp) ∨
      (∃ c pass, ifs = [c] ∧ TV w b A (inner scope C env) ((x, P) :: G') c pass ∧ (pass = false → R i = none) ∧ (pass = true → ∃ Rp, R i = some Rp ∧ EV w b A (inner scope C env) ((x, P) :: G') elt Rp)))
    (hRR : ∀ D C s' m, Nx b [] s₁ s' → (lstV (outs R Ps.length)).p B (.ref D) s'.heap → s'.heap.Ns C m → s₁.heap.objs.size ≤ C → 232 < C → s₁.heap.objs.size ≤ D → RR (.ref D) C (.ok .next) s') :
    wpAny (model PW w) A (newList []) (fun acc s₃ => wpAny (model PW w) A (newFunctionEnv scope env.globals (clOf scope.names env.cells []) [] env.qual none .none (some env)) (fun cenv s₄ =>
      codeAny (model PW w) A (.compStart (.ListComp elt [⟨.Name x px, iter, ifs, 0⟩] scope pos) 0 (.ref I) acc { cenv with scope := relabel scope env }) (RR acc cenv.locals) s₄) E s₃) E s := by
  refine wpAny_newObj_type ?_
  have N₂ := Nx.push F.st (o := { cls := .type "list", data := .seq ([] : List Value).toArray })
  have F₂ := (F.step N₂)
  have hD : s.heap.get? s.heap.objs.size = none := by
    cases e : s.heap.get? s.heap.objs.size with
    | none => rfl
    | some o => exact absurd (Heap.lt_size e) (Nat.lt_irrefl _)
  have gD : 232 < s.heap.objs.size := F.st.lt W
  obtain ⟨n₂, hn₂, hv₂⟩ := F₂.vars
  have extB : ∀ (P : VP) v, P.p B v s.heap → P.p (s.heap.objs.size :: B) v (s.heap.push { cls := .type "list", data := .seq ([] : List Value).toArray }) := fun P v h => P.st (Mv.of0 N₂) (P.ext hD h)
  have F₂' : Fm b O (s.heap.objs.size :: B) env s₀ G { s with heap := s.heap.push { cls := .type "list", data := .seq ([] : List Value).toArray } } := by
    obtain ⟨m, hn, hv⟩ := F.vars
    refine ⟨F₂.nx, F₂.ks, F₂.gl, F₂.bl, F₂.gL, F₂.fL, F₂.bf, fun d hd => ?_, F₂.lc, F₂.own, m, ns_nx hn N₂ F.gL, fun y P e => ?_⟩
    · rcases List.mem_cons.mp hd with rfl | hd
      · show _ < (s.heap.push _).objs.size; rw [Heap.size_push]; exact Nat.lt_succ_self _
      · exact F₂.lB d hd
    · obtain ⟨v, hp, hh⟩ := hv y P e
      refine ⟨v, extB P v hp, ?_⟩
      rcases hh with hh | ⟨hk, c, hc, g, hcl⟩
      · exact .inl hh
      · exact .inr ⟨hk, c, hc, g, cell_nx hcl N₂ g⟩
  refine nfe ?_
  obtain ⟨F₃, N₃⟩ := inner_start (scope := scope) (G' := G') (O' := O') F₂' W hk nd hc (hO _)
  have F₃' := (F₃.rebase N₂.st (Nx.refl N₂.st)).rebase st₁ (N₁.tr N₂)
  have N₂₃ := N₂.tr N₃
  have hj₃ : J (s.heap.objs.size :: B) 0 _ := it.frame (it.ext hD hj) N₂₃ List.not_mem_nil (fun _ h => nomatch h)
  have hDl : (pushCells ((s.heap.push { cls := .type "list", data := .seq ([] : List Value).toArray }).push { cls := .type "dict", data := .dict #[] }) scope.names).PlainList s.heap.objs.size #[] := ⟨0, pushCells_keeps _ _ _ _ (Heap.get?_push_of_some _ (Heap.get?_push_size _ rfl))⟩
  have loop : codeAny (model PW w) A (.compLoop (.ListComp elt [⟨.Name x px, iter, ifs, 0⟩] scope pos) 0 (.ref I) (.ref s.heap.objs.size) (inner scope (s.heap.push { cls := .type "list", data := .seq ([] : List Value).toArray }).objs.size env))
      (RR (.ref s.heap.objs.size) (s.heap.push { cls := .type "list", data := .seq ([] : List Value).toArray }).objs.size) { s with heap := pushCells ((s.heap.push { cls := .type "list", data := .seq ([] : List Value).toArray }).push { cls := .type "dict", data := .dict #[] }) scope.names } := by
    refine comp_loop (R := R) hA it F₃' fI N₁.sz gD hx hGx hj₃ hDl hsz (turn _) fun s' ys F' hD' hy' => ?_
    obtain ⟨m, hn, _⟩ := F'.vars
    refine hRR _ _ s' m F'.nx ⟨_, ys, rfl, gD, fun q => Nat.lt_irrefl _ (F.lB _ q), hD', hy'.mp fun P v h => P.wk h⟩ hn (Nat.le_trans N₁.sz N₂.sz) (N₂.st.lt W) N₁.sz
  exact codeAny_compStart_list loop (it.self (B := s.heap.objs.size :: B) hj₃ loop)

theorem EV.comp1 {elt iter : Expr} {x : Str} {px : Pos} {ifs : List Expr} {scope : Scope} {pos : Pos} {Ps : List VP} (R : Nat → Option VP) (G' : List (Str × VP)) (O' : List Str)
    (W : WW w b mg mb bm ob) (hA : A.handled = none) (hi : IE w b A env G iter Ps)
    (hk : scope.kind = .function) (nd : (scope.names.map (·.1)).Nodup) (hc : Caps scope env G G') (hcl : ∀ n ∈ scope.names, n.2 = .free → (env.cells.lookup n.1).isSome = true)
    (hO : ∀ C : Addr, ∀ y ∈ O', ((cellsFrom (C + 1) scope.names []).lookup y).isSome = true)
    (hx : (relabel scope env).names.lookup x = some .local ∨ ((relabel scope env).names.lookup x = some .cell ∧ x ∈ O')) (hGx : G'.lookup x = none) (hsz : Ps.length ≤ 100000)
    (hnames : ∀ x ∈ scope.names, x.2 = .local → scope.names.lookup x.1 = some .local)
    (turn : ∀ (C : Addr) i P, Ps[i]? = some P → (ifs = [] ∧ ∃ Rp, R i = some Rp ∧ EV w b A (inner scope C env) ((x, P) :: G') elt Rp) ∨
      (∃ c pass, ifs = [c] ∧ TV w b A (inner scope C env) ((x, P) :: G') c pass ∧ (pass = false → R i = none) ∧ (pass = true → ∃ Rp, R i = some Rp ∧ EV w b A (inner scope C env) ((x, P) :: G') elt Rp)))
    (hs : ∀ x, foldedSetIterable iter env x = pure x := by intro _; rfl) :
    EV w b A env G (.ListComp elt [⟨.Name x px, iter, ifs, 0⟩] scope pos) (lstV (outs R Ps.length)) := fun O B s₀ s Q E F hq => by
  rw [eval_ListComp]
  refine wpAny_comprehension_free (use := none) rfl hs (closureFor_eq hcl) hk hnames (hi O B s₀ s _ _ F fun I J s1 N1 it j0 hI => ?_)
  refine comp1_core (RR := fun acc C => compPost (model PW w) A E none Q acc C) W hA (F.step N1) F.st N1 it j0 hI hk nd hc hO hx hGx hsz turn ?_
  intro D C s' m N hp hn fC gC fD
  refine ⟨m, hn, fun h' hs' => ?_⟩
  have hC : b.get? C = none := F.st.fresh fC
  have N' : Nx b [C] s' { s' with heap := h', toks := s'.toks } := Nx.same N.st hs' gC hC (NC.ns hn)
  exact hq _ _ (N.trans N' (fun _ h => nomatch h) (fun c hc => .inr (by rw [List.mem_singleton.mp hc]; exact fC))) ((lstV _).st (Mv.of1 N' (ns_noseq hn)) hp)
end
end Mine
end -- V4
section -- V5
/-! entering a def; bodies that return -/
set_option maxRecDepth 100000
namespace Mine
open PySem PySem.W PySem.Calls PyProof.Rows Builtin
set_option maxHeartbeats 400000

theorem bindL_not {kindOf : Str → Option NameKind} {x : Str} : ∀ {l : List (Str × Value)} {m : Str → Option Value}, (∀ v, (x, v) ∉ l) → bindL kindOf l m x = m x
  | [], _, _ => rfl
  | (n, v) :: r, m, h => by
    unfold bindL
    rw [bindL_not fun v hv => h v (.tail _ hv)]
    split
    · show (if x = n then some v else m x) = m x
      rw [if_neg]; rintro rfl; exact h v (.head _)
    · rfl
theorem bindC_not {kindOf : Str → Option NameKind} {x : Str} : ∀ {l : List (Str × Value)} {m : Str → Option Value}, (∀ v, (x, v) ∉ l) → bindC kindOf l m x = m x
  | [], _, _ => rfl
  | (n, v) :: r, m, h => by
    unfold bindC
    rw [bindC_not fun v hv => h v (.tail _ hv)]
    split
    · rfl
    · show (if x = n then some v else m x) = m x
      rw [if_neg]; rintro rfl; exact h v (.head _)
theorem zip_not {x : Str} : ∀ {ns : List Str} {vs : List Value}, x ∉ ns → ∀ v, (x, v) ∉ ns.zip vs := fun h v hv => h (List.of_mem_zip hv).1
theorem bindL_get {kindOf : Str → Option NameKind} {x : Str} {v : Value} (hk : kindOf x = some .local) : ∀ {ns : List Str} {vs : List Value} {m : Str → Option Value}, ns.Nodup → (ns.zip vs).lookup x = some v → bindL kindOf (ns.zip vs) m x = some v
  | [], _, _, _, h => by simp at h
  | _ :: _, [], _, _, h => by simp at h
  | n :: ns, u :: vs, m, nd, h => by
    rw [List.nodup_cons] at nd
    rw [List.zip_cons_cons, List.lookup_cons] at h
    rw [List.zip_cons_cons]
    unfold bindL
    by_cases hx : x = n
    · subst hx
      simp at h
      subst h
      rw [bindL_not (zip_not nd.1), if_pos hk]
      simp
    · have : (x == n) = false := by simpa using hx
      rw [this] at h
      exact bindL_get hk nd.2 h
theorem bindC_get {kindOf : Str → Option NameKind} {x : Str} {v : Value} (hk : kindOf x ≠ some .local) : ∀ {ns : List Str} {vs : List Value} {m : Str → Option Value}, ns.Nodup → (ns.zip vs).lookup x = some v → bindC kindOf (ns.zip vs) m x = some v
  | [], _, _, _, h => by simp at h
  | _ :: _, [], _, _, h => by simp at h
  | n :: ns, u :: vs, m, nd, h => by
    rw [List.nodup_cons] at nd
    rw [List.zip_cons_cons, List.lookup_cons] at h
    rw [List.zip_cons_cons]
    unfold bindC
    by_cases hx : x = n
    · subst hx
      simp at h
      subst h
      rw [bindC_not (zip_not nd.1), if_neg hk]
      simp
    · have : (x == n) = false := by simpa using hx
      rw [this] at h
      exact bindC_get hk nd.2 h
theorem zip_val {B : List Addr} {h : Heap} {x : Str} {P : VP} : ∀ {ns : List Str} {Ps : List VP} {vs : List Value}, AllR B h Ps vs → (ns.zip Ps).lookup x = some P → ∃ v, (ns.zip vs).lookup x = some v ∧ P.p B v h
  | [], _, _, _, e => by simp at e
  | _ :: _, [], _, _, e => by simp at e
  | n :: ns, P' :: Ps, [], x, _ => x.elim
  | n :: ns, P' :: Ps, v :: vs, ar, e => by
    rw [List.zip_cons_cons, List.lookup_cons] at e
    rw [List.zip_cons_cons, List.lookup_cons]
    cases hx : x == n with
    | true => rw [hx] at e; cases e; exact ⟨v, rfl, ar.1⟩
    | false => rw [hx] at e; exact zip_val ar.2 e

section
variable {w : World} {A : Around} {E : Value → Shared → Prop} {s s₀ : Shared} {b : Heap} {mg mb : Str → Option Value} {bm : Addr} {ob : Obj} {env : Env} {G : List (Str × VP)} {B : List Addr} {O : List Str}

/-- a body that returns a P -/
noncomputable def XV (w : World) (b : Heap) (A : Around) (O : List Str) (env : Env) (G : List (Str × VP)) (body : List Stmt) (P : VP) : Prop :=
  ∀ (B : List Addr) (s₀ s : Shared) (Q : Flow → Shared → Prop) (E : Value → Shared → Prop), Fm b O B env s₀ G s → (∀ v s', Nx b [] s₀ s' → P.p B v s'.heap → Q (.ret v) s') → wpAny (model PW w) A (execs body env) Q E s

theorem CS.def {f : Addr} {fd : FuncData} {body : List Stmt} {cls : Value} {dd : Option Addr} {sl : Array (Option Value)} {ns : List Str} {Ps : List VP} {P : VP} (O : List Str)
    (W : WW w b mg mb bm ob) (hD : A.depth < recursionLimit) (hK : (KK w).lookup f = some ⟨cls, dd, .func fd, sl⟩) (hbody : fd.body = .stmts body) (hcd : codeIn (KK w) fd.code fd.qualname = true)
    (hgl : fd.globals = mainGlobals) (hbl : fd.builtins = builtinsNs) (hclo : fd.closure = [])
    (hlen : ns.length = Ps.length) (nd : ns.Nodup) (hbind : ∀ vs : List Value, vs.length = ns.length → bindArgs fd ⟨vs, []⟩ = pure (ns.zip vs))
    (hkind : ∀ L : Addr, ∀ x ∈ ns, fd.scope.names.lookup x = some .local ∨ (fd.scope.names.lookup x = some .cell ∧ ((cellsFrom (L + 1) fd.scope.names []).lookup x).isSome = true))
    (hO : ∀ L : Addr, ∀ x ∈ O, ((cellsFrom (L + 1) fd.scope.names []).lookup x).isSome = true)
    (h : ∀ L A₁, A₁.handled = A.handled → A₁.depth = A.depth + 1 → A₁.units = A.units + 3 → XV w b A₁ O (callEnvC fd L f) (ns.zip Ps) body P)
    (hco : fd.scope.isCoroutine = false := by rfl) (hgen : fd.scope.isGenerator = false := by rfl) (hk : fd.scope.kind = .function := by rfl) : CS w b A (.ref f) Ps P := by
  intro B s vs Q E st lB ar hq
  have hvl : vs.length = ns.length := ar.len.trans hlen.symm
  refine wpAny_call (codeAny_call_cells (fd := fd) (body := body) hD (st.k W _ _ hK) rfl (st.lim W) (codeRec_of (st.k W) hcd) hbody (hbind vs hvl) hclo (fun x hx => ?_) (fun s₁ ic => ?_) hco hgen hk)
  · obtain ⟨n, v⟩ := x
    exact hkind _ n (List.of_mem_zip hx).1
  have ic' := ic.toInCall
  obtain ⟨h', tk, e1⟩ := ic'.same
  subst e1
  have hsz : s.heap.objs.size < h'.objs.size := ic'.ns.lt
  have N : Nx b [] s { s with heap := h', toks := tk } := Nx.all st ic'.keep rfl rfl rfl (Nat.le_of_lt hsz)
  refine h s.heap.objs.size (A.deeper (callEnvC fd s.heap.objs.size f)) rfl rfl rfl B s _ _ _ ?_ (fun v s' N' p => ?_)
  rotate_left
  · exact hq v s' N' p
  refine ⟨N, hk, hgl, hbl, st.lt W, Nat.le_refl _, fun a ha => st.fresh ha, fun d hd => Nat.lt_of_lt_of_le (lB d hd) N.sz, fun y c e => ?_, fun x hx => ?_, ?_⟩
  · have hc := ic.cell y c e
    exact ⟨hc.lt, Nat.lt_trans (st.lt W) (ic.above y c (mem_of_lookup e))⟩
  · obtain ⟨c, hc⟩ := Option.isSome_iff_exists.mp (hO s.heap.objs.size x hx)
    exact ⟨c, hc, Nat.le_of_lt (ic.above x c (mem_of_lookup hc)), ⟨_, ic.cell x c hc⟩, fun y hy => name_of_addr ic.apart (mem_of_lookup hy) (mem_of_lookup hc)⟩
  · refine ⟨_, ic'.ns, fun x Px e => ?_⟩
    obtain ⟨v, hv, hp⟩ := zip_val ar e
    refine ⟨v, Px.st (Mv.of0 N) hp, ?_⟩
    have hxn : x ∈ ns := (List.of_mem_zip (_root_.PySem.mem_of_lookup e)).1
    rcases hkind s.heap.objs.size x hxn with hl | ⟨hl, hc⟩
    · exact .inl ⟨hl, bindL_get hl nd hv⟩
    · obtain ⟨c, hc⟩ := Option.isSome_iff_exists.mp hc
      refine .inr ⟨.inl hl, c, hc, Nat.lt_trans (st.lt W) (ic.above x c (mem_of_lookup hc)), ?_⟩
      have := ic.cell x c hc
      rwa [bindC_get (by show fd.scope.names.lookup x ≠ _; rw [hl]; decide) nd hv] at this
end
end Mine
end -- V5
section -- V6
/-! statements -/
set_option maxRecDepth 100000
namespace Mine
open PySem PySem.W PySem.Calls PyProof.Rows Builtin
set_option maxHeartbeats 400000

section
variable {w : World} {A : Around} {E : Value → Shared → Prop} {s s₀ : Shared} {b : Heap} {mg mb : Str → Option Value} {bm : Addr} {ob : Obj} {env : Env} {G : List (Str × VP)} {B : List Addr} {O : List Str}

/-- a's the names of the frame or one of its cells -/
noncomputable def Mine' (env : Env) (a : Addr) : Prop := a = env.locals ∨ ∃ y, env.cells.lookup y = some a
theorem Fm.setM {x : Str} {v : Value} {P : VP} {Q : Unit → Shared → Prop} (F : Fm b O B env s₀ G s) (hv : P.p B v s.heap) (hl : env.kindOf x = some .local ∨ (env.kindOf x = some .cell ∧ x ∈ O))
    (h : ∀ a s', Nx b [a] s s' → Wr s a → Mine' env a → Fm b O B env s₀ ((x, P) :: G) s' → Q () s') : wpAny (model PW w) A (storeName env x v) Q E s := by
  rcases hl with hl | ⟨hl, hO⟩
  · obtain ⟨m, hn, _⟩ := F.vars
    refine F.setL hv (fun s' N M F' => h _ s' N (.inl ⟨m, hn⟩) (.inl rfl) F') hl
  · exact F.setC hv hO (fun c s' N hc hl M F' => h c s' N (.inr hc) (.inr ⟨x, hl⟩) F') hl

theorem Fm.stepM {X : List Addr} {s' : Shared} (F : Fm b O B env s₀ G s) (N : Nx b X s s') (h : ∀ a ∈ X, ¬ Mine' env a ∧ s₀.heap.objs.size ≤ a ∧ (a ∈ B ∨ ∀ o, s.heap.get? a = some o → ∀ its n, o.data ≠ .seq its n)) : Fm b O B env s₀ G s' := by
  have M : Mv b B s s' := ⟨X, N, fun a ha => (h a ha).2.2⟩
  refine ⟨F.nx.trans N (fun _ q => nomatch q) (fun a ha => .inr (h a ha).2.1), F.ks, F.gl, F.bl, F.gL, F.fL, F.bf, fun d hd => Nat.lt_of_lt_of_le (F.lB d hd) N.sz, F.lc' N.sz, fun x hx => ?_, ?_⟩
  · obtain ⟨c, hc, fc, ⟨v, hv⟩, ap⟩ := F.own x hx
    exact ⟨c, hc, fc, ⟨v, cell_nx hv N (F.lc x c hc).2 (fun q => (h c q).1 (.inr ⟨x, hc⟩))⟩, ap⟩
  obtain ⟨m, hn, hv⟩ := F.vars
  refine ⟨m, ns_nx hn N F.gL (fun q => (h _ q).1 (.inl rfl)), fun x P e => ?_⟩
  obtain ⟨v, hp, hh⟩ := hv x P e
  refine ⟨v, P.st M hp, ?_⟩
  rcases hh with hh | ⟨hk, c, hc, g, hcl⟩
  · exact .inl hh
  · exact .inr ⟨hk, c, hc, g, cell_nx hcl N g (fun q => (h c q).1 (.inr ⟨x, hc⟩))⟩

/-- x = e; rest -/
theorem st_assign {x : Str} {px pos : Pos} {e : Expr} {rest : List Stmt} {P : VP} {Q : Flow → Shared → Prop} (F : Fm b O B env s₀ G s) (he : EV w b A env G e P) (hl : env.kindOf x = some .local ∨ (env.kindOf x = some .cell ∧ x ∈ O))
    (h : ∀ a s', Nx b [a] s s' → Mine' env a → Fm b O B env s₀ ((x, P) :: G) s' → wpAny (model PW w) A (execs rest env) Q E s')
    (hs : swapsWith e (some (.Name x px)) pos.line env = pure false := by rfl) : wpAny (model PW w) A (execs (.Assign [.Name x px] e pos :: rest) env) Q E s :=
  wpAny_execs_cons (wpAny_Assign_Name (he O B s₀ s _ _ F fun v s1 N1 p1 => (F.step N1).setM p1 hl fun a s2 N2 _ hm F2 => h a s2 (N1.lt0 N2) hm F2) hs)

/-- y = [.. for x in ..]; rest, where the model stores ahead of the letting go -/
theorem st_assign_comp {y : Str} {py spos : Pos} {rest : List Stmt} {elt iter : Expr} {x : Str} {px : Pos} {ifs : List Expr} {scope : Scope} {pos : Pos} {Ps : List VP} {Q : Flow → Shared → Prop} (R : Nat → Option VP) (G' : List (Str × VP)) (O' : List Str)
    (W : WW w b mg mb bm ob) (hA : A.handled = none) (F : Fm b O B env s₀ G s) (hi : IE w b A env G iter Ps)
    (hk : scope.kind = .function) (nd : (scope.names.map (·.1)).Nodup) (hc : Caps scope env G G') (hcl : ∀ n ∈ scope.names, n.2 = .free → (env.cells.lookup n.1).isSome = true)
    (hO : ∀ C : Addr, ∀ y ∈ O', ((cellsFrom (C + 1) scope.names []).lookup y).isSome = true)
    (hx : (relabel scope env).names.lookup x = some .local ∨ ((relabel scope env).names.lookup x = some .cell ∧ x ∈ O')) (hGx : G'.lookup x = none) (hsz : Ps.length ≤ 100000)
    (hnames : ∀ x ∈ scope.names, x.2 = .local → scope.names.lookup x.1 = some .local)
    (turn : ∀ (C : Addr) i P, Ps[i]? = some P → (ifs = [] ∧ ∃ Rp, R i = some Rp ∧ EV w b A (inner scope C env) ((x, P) :: G') elt Rp) ∨
      (∃ c pass, ifs = [c] ∧ TV w b A (inner scope C env) ((x, P) :: G') c pass ∧ (pass = false → R i = none) ∧ (pass = true → ∃ Rp, R i = some Rp ∧ EV w b A (inner scope C env) ((x, P) :: G') elt Rp)))
    (h : ∀ s', Nx b [env.locals] s s' → Fm b O B env s₀ ((y, lstV (outs R Ps.length)) :: G) s' → wpAny (model PW w) A (execs rest env) Q E s')
    (hl : env.kindOf y = some .local := by rfl) (hsw : swapsWith (.ListComp elt [⟨.Name x px, iter, ifs, 0⟩] scope pos) (some (.Name y py)) spos.line env = pure true := by rfl)
    (hs : ∀ x, foldedSetIterable iter env x = pure x := by intro _; rfl) :
    wpAny (model PW w) A (execs (.Assign [.Name y py] (.ListComp elt [⟨.Name x px, iter, ifs, 0⟩] scope pos) spos :: rest) env) Q E s := by
  refine wpAny_execs_cons ?_
  rw [exec_Assign_Name_used _ _ _ _ hsw]
  refine wpAny_bind (wpAny_standAt (wpAny_bind ?_))
  show wpAny _ A (do let _ ← comprehension (.ListComp elt [⟨.Name x px, iter, ifs, 0⟩] scope pos) scope env _ (newList []) false (eval iter env) (some (assign (.Name y py) env))) _ _ s
  refine wpAny_bind (wpAny_mono (wpAny_comprehension_free (use := some (assign (.Name y py) env)) (Q := fun _ s' => wpAny (model PW w) A (execs rest env) Q E s') rfl hs (closureFor_eq hcl) hk hnames
    (hi O B s₀ s _ _ F fun I J s1 N1 it j0 hI => ?_)) (fun _ s' hq => wpAny_pure (wpAny_pure hq)) fun _ _ e => e)
  refine comp1_core (RR := fun acc C => compPost (model PW w) A E (some (assign (.Name y py) env)) (fun _ s' => wpAny (model PW w) A (execs rest env) Q E s') acc C) W hA (F.step N1) F.st N1 it j0 hI hk nd hc hO hx hGx hsz turn ?_
  intro D C s' m N hp hn fC gC fD
  show wpAny _ A (assign (.Name y py) env (.ref D)) _ _ _
  refine wpAny_assign_Name ((F.step N).setL hp (fun s2 N2 M2 F2 => ?_) hl)
  have hLC : C ≠ env.locals := fun q => by
    obtain ⟨m', hn', _⟩ := F.vars
    have := hn'.lt
    rw [← q] at this
    exact absurd this (Nat.not_lt.mpr fC)
  have hn2 := ns_nx hn N2 gC (fun q => hLC (List.mem_singleton.mp q))
  refine ⟨m, hn2, fun h' hs' => ?_⟩
  have hC : b.get? C = none := F.st.fresh fC
  have N3 : Nx b [C] s2 { s2 with heap := h', toks := s2.toks } := Nx.same N2.st hs' gC hC (NC.ns hn2)
  have F3 : Fm b O B env s₀ ((y, lstV (outs R Ps.length)) :: G) { s2 with heap := h' } := F2.stepM N3 fun a ha => by
    rw [List.mem_singleton.mp ha]
    refine ⟨fun q => ?_, Nat.le_trans F.nx.sz fC, .inr (ns_noseq hn2)⟩
    rcases q with q | ⟨y, hy⟩
    · exact hLC q
    · exact absurd (F.lc y C hy).1 (Nat.not_lt.mpr fC)
  exact h _ ((N.lt0 N2).trans N3 (fun c hc => .inl hc) (fun c hc => .inr (by rw [List.mem_singleton.mp hc]; exact fC))) F3

/-- for x in e: body -/
theorem st_for {x : Str} {px pos : Pos} {iter : Expr} {body : List Stmt} {Ps : List VP} {Q : Flow → Shared → Prop} (K : Nat → Shared → Prop)
    (hA : A.handled = none) (F : Fm b O B env s₀ G s) (hi : IE w b A env G iter Ps) (hl : env.kindOf x = some .local ∨ (env.kindOf x = some .cell ∧ x ∈ O)) (hGx : G.lookup x = none)
    (hK : ∀ i a s1 s2, K i s1 → Nx b [a] s1 s2 → (s.heap.objs.size ≤ a ∨ Mine' env a) → K i s2) (h0 : ∀ s1, Nx b [] s s1 → K 0 s1)
    (turn : ∀ i P, Ps[i]? = some P → ∀ (s1 : Shared) (E' : Value → Shared → Prop), Fm b O B env s₀ ((x, P) :: G) s1 → K i s1 → s.heap.objs.size ≤ s1.heap.objs.size →
      wpAny (model PW w) A (execs body env) (fun f s2 => f = .next ∧ Fm b O B env s₀ G s2 ∧ K (i + 1) s2 ∧ ∃ X, Nx b X s1 s2 ∧ ∀ a ∈ X, (a ∈ B ∨ ∀ o, s1.heap.get? a = some o → ∀ its n, o.data ≠ .seq its n) ∧ (a < s.heap.objs.size ∨ s1.heap.objs.size ≤ a)) E' s1)
    (done : ∀ s', Fm b O B env s₀ G s' → K Ps.length s' → Q .next s') (hs : ∀ x, foldedSetIterable iter env x = pure x := by intro _; rfl) :
    wpAny (model PW w) A (exec (.For (.Name x px) iter body [] pos) env) Q E s := by
  refine wpAny_For (hi O B s₀ s _ _ F fun I J sa Na it j0 hI => ?_) hs
  refine codeAny_forLoop (fun n s' => ∃ i, n = Ps.length + 1 - i ∧ i ≤ Ps.length ∧ Fm b O B env s₀ G s' ∧ J B i s'.heap ∧ K i s' ∧ sa.heap.objs.size ≤ s'.heap.objs.size) ?_ (Ps.length + 1)
    ⟨0, rfl, Nat.zero_le _, F.step Na, j0, h0 sa Na, Nat.le_refl _⟩
  rintro n s1 ⟨i, rfl, hi, F1, j1, k1, z1⟩
  have stepI : ∀ {s s' : Shared} {i : Nat}, Fm b O B env s₀ G s → J B i s.heap → Nx b [I] s s' → Fm b O B env s₀ G s' := fun F hj N => by
    obtain ⟨o, e, vs, hd⟩ := it.live hj
    exact F.stepX N fun a ha => by rw [List.mem_singleton.mp ha]; exact ⟨not_wr_fields e hd, Nat.le_trans (Fm.nx ‹Fm b O B env s₀ G s›).sz hI, .inr (noseq_fields e hd)⟩
  by_cases hlt : i < Ps.length
  · have hP : Ps[i]? = some Ps[i] := List.getElem?_eq_getElem hlt
    refine it.item hA hP F1.st j1 fun v s2 N2 j2 p2 => ?_
    have F2 := stepI F1 j1 N2
    have k2 := hK i I _ _ k1 N2 (.inl hI)
    refine wpAny_assign_Name (F2.setM p2 hl fun a s3 N3 wr hm F3 => ?_)
    have hIa : I ≠ a := fun q => by
      obtain ⟨o, e, vs, hd⟩ := it.live j2
      exact wr.nofld (q ▸ e) hd
    have j3 := it.frame j2 N3 (fun q => hIa (List.mem_singleton.mp q)) fun c hc => .inr (by rw [List.mem_singleton.mp hc]; exact wr.noseq)
    have k3 := hK i a _ _ k2 N3 (.inr hm)
    have z3 : sa.heap.objs.size ≤ s3.heap.objs.size := Nat.le_trans z1 (Nat.le_trans N2.sz N3.sz)
    refine wpAny_mono (turn i _ hP s3 _ F3 k3 (Nat.le_trans Na.sz z3)) (fun f s4 h4 => ?_) fun _ _ e => e
    obtain ⟨rfl, F4, k4, X, N4, hX⟩ := h4
    refine ⟨Ps.length + 1 - (i + 1), sub_step hlt, i + 1, rfl, hlt, F4, it.frame j3 N4 (fun q => ?_) (fun c hc => (hX c hc).1), k4, Nat.le_trans z3 N4.sz⟩
    obtain ⟨o, e, _⟩ := it.live j3
    rcases (hX I q).2 with h | h
    · exact absurd h (Nat.not_lt.mpr hI)
    · exact absurd (Heap.lt_size e) (Nat.not_lt.mpr h)
  · have : i = Ps.length := Nat.le_antisymm hi (Nat.not_lt.mp hlt)
    subst this
    refine it.done hA F1.st j1 fun s2 N2 => ?_
    exact wpAny_execs_nil (done s2 (stepI F1 j1 N2) (hK _ I _ _ k1 N2 (.inl hI)))

/-- returning bodies -/
theorem XV.ret {e : Expr} {pos : Pos} {rest : List Stmt} {P : VP} (h : EV w b A env G e P) : XV w b A O env G (.Return (some e) pos :: rest) P := fun B s₀ s Q E F hq =>
  wpAny_execs_cons (wpAny_Return_some (h O B s₀ s _ _ F fun v s' N p => hq v s' (F.nx.tr N) p))
theorem XV.assign {x : Str} {px pos : Pos} {e : Expr} {rest : List Stmt} {P P' : VP} (he : EV w b A env G e P') (h : XV w b A O env ((x, P') :: G) rest P) (hl : env.kindOf x = some .local ∨ (env.kindOf x = some .cell ∧ x ∈ O))
    (hs : swapsWith e (some (.Name x px)) pos.line env = pure false := by rfl) : XV w b A O env G (.Assign [.Name x px] e pos :: rest) P := fun B s₀ s Q E F hq =>
  st_assign F he hl (fun a s' N hm F' => h B s₀ s' Q E F' hq) hs
theorem XV.ifret {t : Expr} {body : List Stmt} {pos : Pos} {rest : List Stmt} {P : VP} {c : Bool} (ht : TV w b A env G t c) (h1 : c = true → XV w b A O env G body P) (h2 : c = false → XV w b A O env G rest P) : XV w b A O env G (.If t body [] pos :: rest) P := fun B s₀ s Q E F hq =>
  wpAny_execs_cons (wpAny_If (ht O B s₀ s _ _ F fun s1 N1 => by
    cases c with
    | true => exact wpAny_mono (h1 rfl B s₀ s1 (fun f s' => ∃ v, f = .ret v ∧ Q (.ret v) s') E (F.step N1) fun v s' N p => ⟨v, rfl, hq v s' N p⟩) (fun f s' hf => by obtain ⟨v, rfl, hv⟩ := hf; exact hv) fun _ _ e => e
    | false => exact wpAny_execs_nil (h2 rfl B s₀ s1 Q E (F.step N1) hq)))
end
end Mine
end -- V6
section -- V7
/-! comprehensions of two sources -/
set_option maxRecDepth 100000
namespace Mine
open PySem PySem.W PySem.Calls PyProof.Rows Builtin
set_option maxHeartbeats 400000

noncomputable abbrev lc2 (elt t1 i1 t2 i2 : Expr) (scope : Scope) (pos : Pos) : Expr := .ListComp elt [⟨t1, i1, [], 0⟩, ⟨t2, i2, [], 0⟩] scope pos
theorem compTurn2_0 (elt t1 i1 t2 i2 : Expr) (scope : Scope) (pos : Pos) (it acc : Value) (env : Env) :
    compTurn (lc2 elt t1 i1 t2 i2 scope pos) 0 it acc env = (do
      standAt i1.pos
      match ← pyNext it with
      | none => pure (.done .next)
      | some v =>
        letOwnedTupleGo t1 it v
        assign t1 env v
        let x ← eval i2 env
        standAt i2.pos
        let x ← foldedSetIterable i2 env x
        let it2 ← holding [x] (pyIter x)
        let _ ← runOwn (.compStart (lc2 elt t1 i1 t2 i2 scope pos) 1 it2 acc env) env
        again (.compLoop (lc2 elt t1 i1 t2 i2 scope pos) 0 it acc env)) := by rfl
theorem compTurn2_1 (elt t1 i1 t2 i2 : Expr) (scope : Scope) (pos : Pos) (it acc : Value) (env : Env) :
    compTurn (lc2 elt t1 i1 t2 i2 scope pos) 1 it acc env = (do
      standAt i2.pos
      match ← pyNext it with
      | none => pure (.done .next)
      | some v =>
        letOwnedTupleGo t2 it v
        assign t2 env v
        (do let _ ← call (.builtin "list.append") [acc, ← eval elt env])
        again (.compLoop (lc2 elt t1 i1 t2 i2 scope pos) 1 it acc env)) := by rfl

section
variable {w : World} {A : Around} {E : Value → Shared → Prop} {s s₀ : Shared} {b : Heap} {mg mb : Str → Option Value} {bm : Addr} {ob : Obj} {env : Env} {G : List (Str × VP)} {B : List Addr} {O : List Str}

theorem codeAny_compStart2 {elt t1 i1 t2 i2 : Expr} {scope : Scope} {pos : Pos} {d : Nat} {it acc : Value} {env : Env} {R : Result → Shared → Prop} (hd : d < 2)
    (h0 : codeAny (model PW w) A (.compLoop (lc2 elt t1 i1 t2 i2 scope pos) d it acc env) R s)
    (h : wpAny (model PW w) A (pyIter it) (fun it' s' => codeAny (model PW w) A (.compLoop (lc2 elt t1 i1 t2 i2 scope pos) d it' acc env) R s')
      (notedBy (model PW w) A env fun x s' => R (.error x) s') s) :
    codeAny (model PW w) A (.compStart (lc2 elt t1 i1 t2 i2 scope pos) d it acc env) R s := by
  refine codeAny_of_tree ?_
  show wpAny _ A ((compStart (lc2 elt t1 i1 t2 i2 scope pos) d it acc env).onRaise (fun x => do noteFrame x env; standAt theWindowsPlace)) _ _ s
  refine wpAny_notedAt ?_
  unfold compStart
  have hcl : ∃ g : Comprehension, (clausesOf (lc2 elt t1 i1 t2 i2 scope pos))[d]? = some g ∧ g.is_async = 0 := by
    match d, hd with
    | 0, _ => exact ⟨_, rfl, rfl⟩
    | 1, _ => exact ⟨_, rfl, rfl⟩
  obtain ⟨g, hg, ha⟩ := hcl
  rw [hg]
  simp only [Option.elim_some, ha, bne_self_eq_false, Bool.false_eq_true, if_false]
  refine wpAny_bind (wpAny_askSetting (wpAny_ite ?_))
  split
  · exact wpAny_bind (wpAny_pure (wpAny_pure ⟨rfl, h0⟩))
  · refine wpAny_bind (wpAny_rule (wpAny_bind (wpAny_standAt (wpAny_bind ?_))))
    exact wpAny_mono h (fun it' s' h' => wpAny_pure ⟨rfl, h'⟩) fun _ _ e => e

theorem lookup_drop {x : Str} {P : VP} (hGx : G.lookup x = none) : ∀ y P', G.lookup y = some P' → ((x, P) :: G).lookup y = some P' := fun y P' e => by
  rw [List.lookup_cons]
  by_cases hy : y = x
  · subst hy; rw [hGx] at e; cases e
  · have : (y == x) = false := by simpa using hy
    rw [this]; exact e

/-- the inner loop -/
theorem comp_in {elt t1 i1 i2 : Expr} {y : Str} {py : Pos} {scope : Scope} {pos : Pos} {I D : Addr} {Ps Y0 : List VP} {J : List Addr → Nat → Heap → Prop} {ce : Env} {R : Nat → VP} {RR : Result → Shared → Prop} {ys0 : Array Value} (K : Shared → Prop)
    (hK : ∀ s1 s2 a, K s1 → Nx b [a] s1 s2 → ((a = I ∧ ∀ o, s1.heap.get? a = some o → ∀ its n, o.data ≠ .seq its n) ∨ a = D ∨ Wr s1 a) → K s2) (hK0 : ∀ s1 s2, K s1 → Nx b [] s1 s2 → K s2)
    (hA : A.handled = none) (it : Itr w b I Ps J) (F : Fm b O (D :: B) ce s₀ G s) (fI : s₀.heap.objs.size ≤ I) (fD : s₀.heap.objs.size ≤ D) (gD : 232 < D)
    (hx : ce.kindOf y = some .local ∨ (ce.kindOf y = some .cell ∧ y ∈ O)) (hGx : G.lookup y = none) (hj : J (D :: B) 0 s.heap) (hD : s.heap.PlainList D ys0) (hY : AllR (D :: B) s.heap Y0 ys0.toList) (hk : K s) (hsz : Y0.length + Ps.length ≤ 100000)
    (turn : ∀ i P, Ps[i]? = some P → EV w b A ce ((y, P) :: G) elt (R i))
    (hR : ∀ s' ys, Fm b O (D :: B) ce s₀ G s' → K s' → s'.heap.PlainList D ys → AllR (D :: B) s'.heap (Y0 ++ (List.range Ps.length).map R) ys.toList → RR (.ok .next) s') :
    codeAny (model PW w) A (.compLoop (lc2 elt t1 i1 (.Name y py) i2 scope pos) 1 (.ref I) (.ref D) ce) RR s := by
  refine codeAny_loop rfl (fun n s' => ∃ i ys, n = Ps.length + 1 - i ∧ i ≤ Ps.length ∧ Fm b O (D :: B) ce s₀ G s' ∧ K s' ∧ J (D :: B) i s'.heap ∧ s'.heap.PlainList D ys ∧ AllR (D :: B) s'.heap (Y0 ++ (List.range i).map R) ys.toList) (fun n s1 h1 => ?_) (Ps.length + 1)
    ⟨0, ys0, rfl, Nat.zero_le _, F, hk, hj, hD, by simpa using hY⟩
  obtain ⟨i, ys, rfl, hi, F1, k1, j1, hD1, hy1⟩ := h1
  show wpAny _ A ((compTurn (lc2 elt t1 i1 (.Name y py) i2 scope pos) 1 (.ref I) (.ref D) ce).onRaise (fun x => do noteFrame x ce; theTreesLotGoes x)) _ _ s1
  refine wpAny_noted ?_
  rw [compTurn2_1]
  have stepI : ∀ {s s' : Shared} {i : Nat}, Fm b O (D :: B) ce s₀ G s → J (D :: B) i s.heap → Nx b [I] s s' → Fm b O (D :: B) ce s₀ G s' := fun F hj N => by
    obtain ⟨o, e, vs, hd⟩ := it.live hj
    exact F.stepX N fun a ha => by rw [List.mem_singleton.mp ha]; exact ⟨not_wr_fields e hd, fI, .inr (noseq_fields e hd)⟩
  have neID : ∀ {s : Shared} {i : Nat} {ys : Array Value}, J (D :: B) i s.heap → s.heap.PlainList D ys → D ≠ I := fun hj ⟨n, e⟩ q => by
    obtain ⟨o, e', vs, hd⟩ := it.live hj
    rw [← q, e] at e'; cases e'; cases hd
  have hne := neID j1 hD1
  have plN : ∀ {X : List Addr} {s s' : Shared} {ys : Array Value}, s.heap.PlainList D ys → Nx b X s s' → D ∉ X → s'.heap.PlainList D ys := fun ⟨n, e⟩ N h => ⟨n, N.kp _ _ (notab_of gD) h e⟩
  refine wpAny_bind (wpAny_standAt (wpAny_bind ?_))
  by_cases hlt : i < Ps.length
  · have hP : Ps[i]? = some Ps[i] := List.getElem?_eq_getElem hlt
    refine it.item hA hP F1.st j1 fun v s2 N2 j2 p2 => ?_
    have F2 := stepI F1 j1 N2
    have hD2 := plN hD1 N2 (fun q => hne (List.mem_singleton.mp q))
    have hIn : ∀ o, s1.heap.get? I = some o → ∀ its n, o.data ≠ .seq its n := by
      obtain ⟨o, e, vs, hd⟩ := it.live j1
      exact noseq_fields e hd
    have hy2 := hy1.st (Mv.of1 N2 hIn)
    have k2 := hK _ _ I k1 N2 (.inl ⟨rfl, hIn⟩)
    refine wpAny_bind (it.nolet j2 rfl (wpAny_bind (wpAny_assign_Name (F2.set p2 hx fun a s3 N3 wr F3 => ?_))))
    have hDa : D ≠ a := fun q => by
      obtain ⟨n, e⟩ := hD2
      exact wr.noseq _ (q ▸ e) _ _ rfl
    have hIa : I ≠ a := fun q => by
      obtain ⟨o, e, vs, hd⟩ := it.live j2
      exact wr.nofld (q ▸ e) hd
    have k3 := hK _ _ a k2 N3 (.inr (.inr wr))
    have j3 := it.frame j2 N3 (fun q => hIa (List.mem_singleton.mp q)) fun c hc => .inr (by rw [List.mem_singleton.mp hc]; exact wr.noseq)
    have hD3 := plN hD2 N3 (fun q => hDa (List.mem_singleton.mp q))
    have hy3 := hy2.st (Mv.of1 N3 wr.noseq)
    refine wpAny_bind (wpAny_bind (turn i _ hP O (D :: B) s₀ s3 _ _ F3 fun u s5 N5 p5 => wpAny_bind ?_))
    have F5 := F3.step N5
    have k5 := hK0 _ _ k3 N5
    have j5 := it.frame j3 N5 (List.not_mem_nil) fun c hc => nomatch hc
    have hD5 := plN hD3 N5 List.not_mem_nil
    have hy5 := hy3.st (Mv.of0 N5)
    have hlen := hy5.len
    rw [Array.length_toList, List.length_append, List.length_map, List.length_range] at hlen
    refine wpAny_list_append_plain (hsz := Nat.le_trans (show ys.size ≤ 100000 by omega) (by decide)) hD5 fun h6 hD6 hs6 => wpAny_pure (wpAny_pure ⟨rfl, Ps.length + 1 - (i + 1), sub_step hlt, i + 1, ys.push u, rfl, hlt, ?_⟩)
    have N6 : Nx b [D] s5 { s5 with heap := h6, toks := s5.toks } := Nx.same F5.st hs6 gD (F5.bf _ fD) (let ⟨_, e⟩ := hD5; NC.seq e rfl)
    have M6 : Mv b (D :: B) s5 { s5 with heap := h6, toks := s5.toks } := Mv.ofB N6 (.head _)
    refine ⟨(F5.sub (G' := G) (lookup_drop hGx)).stepX N6 fun c hc => ?_, hK _ _ D k5 N6 (.inr (.inl rfl)), it.frame j5 N6 (fun q => hne (List.mem_singleton.mp q).symm) fun c hc => .inl (by rw [List.mem_singleton.mp hc]; exact .head _), hD6, ?_⟩
    · obtain ⟨n5, e5⟩ := hD5
      rw [List.mem_singleton.mp hc]
      exact ⟨not_wr_seq e5 rfl, fD, .inl (.head _)⟩
    · rw [List.range_succ, List.map_append, ← List.append_assoc, Array.toList_push]
      exact (hy5.st M6).snoc ((R i).st M6 p5)
  · have : i = Ps.length := Nat.le_antisymm hi (Nat.not_lt.mp hlt)
    subst this
    refine it.done hA F1.st j1 fun s2 N2 => ?_
    have hIn : ∀ o, s1.heap.get? I = some o → ∀ its n, o.data ≠ .seq its n := by
      obtain ⟨o, e, vs, hd⟩ := it.live j1
      exact noseq_fields e hd
    exact wpAny_pure (hR s2 ys (stepI F1 j1 N2) (hK _ _ I k1 N2 (.inl ⟨rfl, hIn⟩)) (plN hD1 N2 (fun q => hne (List.mem_singleton.mp q))) (hy1.st (Mv.of1 N2 hIn)))

noncomputable def flat (R : Nat → List VP) : Nat → List VP
  | 0 => []
  | n + 1 => flat R n ++ R n

/-- the outer loop -/
theorem comp_out {elt i1 i2 : Expr} {x y : Str} {px py : Pos} {scope : Scope} {pos : Pos} {I D : Addr} {Ps : List VP} {J : List Addr → Nat → Heap → Prop} {ce : Env} {Ps2 : Nat → List VP} {R2 : Nat → Nat → VP} {RR : Result → Shared → Prop}
    (W : WW w b mg mb bm ob) (hA : A.handled = none) (it : Itr w b I Ps J) (F : Fm b O (D :: B) ce s₀ G s) (fI : s₀.heap.objs.size ≤ I) (fD : s₀.heap.objs.size ≤ D) (gD : 232 < D)
    (hx : ce.kindOf x = some .local ∨ (ce.kindOf x = some .cell ∧ x ∈ O)) (hy : ce.kindOf y = some .local ∨ (ce.kindOf y = some .cell ∧ y ∈ O)) (hGx : G.lookup x = none) (hGy : G.lookup y = none) (hxy : (y == x) = false)
    (hj : J (D :: B) 0 s.heap) (hD : s.heap.PlainList D #[]) (hsz : ∀ i, i ≤ Ps.length → (flat (fun i => (List.range (Ps2 i).length).map (R2 i)) i).length ≤ 100000)
    (src : ∀ i P, Ps[i]? = some P → IE w b A ce ((x, P) :: G) i2 (Ps2 i))
    (turn : ∀ i P, Ps[i]? = some P → ∀ j P2, (Ps2 i)[j]? = some P2 → EV w b A ce ((y, P2) :: (x, P) :: G) elt (R2 i j))
    (hR : ∀ s' ys, Fm b O (D :: B) ce s₀ G s' → s'.heap.PlainList D ys → AllR (D :: B) s'.heap (flat (fun i => (List.range (Ps2 i).length).map (R2 i)) Ps.length) ys.toList → RR (.ok .next) s')
    (hs : ∀ v, foldedSetIterable i2 ce v = pure v := by intro _; rfl) :
    codeAny (model PW w) A (.compLoop (lc2 elt (.Name x px) i1 (.Name y py) i2 scope pos) 0 (.ref I) (.ref D) ce) RR s := by
  refine codeAny_loop rfl (fun n s' => ∃ i ys, n = Ps.length + 1 - i ∧ i ≤ Ps.length ∧ Fm b O (D :: B) ce s₀ G s' ∧ J (D :: B) i s'.heap ∧ s'.heap.PlainList D ys ∧ AllR (D :: B) s'.heap (flat (fun i => (List.range (Ps2 i).length).map (R2 i)) i) ys.toList) (fun n s1 h1 => ?_) (Ps.length + 1)
    ⟨0, #[], rfl, Nat.zero_le _, F, hj, hD, trivial⟩
  obtain ⟨i, ys, rfl, hi, F1, j1, hD1, hy1⟩ := h1
  show wpAny _ A ((compTurn (lc2 elt (.Name x px) i1 (.Name y py) i2 scope pos) 0 (.ref I) (.ref D) ce).onRaise (fun x => do noteFrame x ce; theTreesLotGoes x)) _ _ s1
  refine wpAny_noted ?_
  rw [compTurn2_0]
  have stepI : ∀ {s s' : Shared} {i : Nat}, Fm b O (D :: B) ce s₀ G s → J (D :: B) i s.heap → Nx b [I] s s' → Fm b O (D :: B) ce s₀ G s' := fun F hj N => by
    obtain ⟨o, e, vs, hd⟩ := it.live hj
    exact F.stepX N fun a ha => by rw [List.mem_singleton.mp ha]; exact ⟨not_wr_fields e hd, fI, .inr (noseq_fields e hd)⟩
  have neID : ∀ {s : Shared} {i : Nat} {ys : Array Value}, J (D :: B) i s.heap → s.heap.PlainList D ys → D ≠ I := fun hj ⟨n, e⟩ q => by
    obtain ⟨o, e', vs, hd⟩ := it.live hj
    rw [← q, e] at e'; cases e'; cases hd
  have hne := neID j1 hD1
  have plN : ∀ {X : List Addr} {s s' : Shared} {ys : Array Value}, s.heap.PlainList D ys → Nx b X s s' → D ∉ X → s'.heap.PlainList D ys := fun ⟨n, e⟩ N h => ⟨n, N.kp _ _ (notab_of gD) h e⟩
  refine wpAny_bind (wpAny_standAt (wpAny_bind ?_))
  by_cases hlt : i < Ps.length
  · have hP : Ps[i]? = some Ps[i] := List.getElem?_eq_getElem hlt
    refine it.item hA hP F1.st j1 fun v s2 N2 j2 p2 => ?_
    have F2 := stepI F1 j1 N2
    have hD2 := plN hD1 N2 (fun q => hne (List.mem_singleton.mp q))
    have hIn : ∀ o, s1.heap.get? I = some o → ∀ its n, o.data ≠ .seq its n := by
      obtain ⟨o, e, vs, hd⟩ := it.live j1
      exact noseq_fields e hd
    have hy2 := hy1.st (Mv.of1 N2 hIn)
    refine wpAny_bind (it.nolet j2 rfl (wpAny_bind (wpAny_assign_Name (F2.set p2 hx fun a s3 N3 wr F3 => ?_))))
    have hDa : D ≠ a := fun q => by
      obtain ⟨n, e⟩ := hD2
      exact wr.noseq _ (q ▸ e) _ _ rfl
    have hIa : I ≠ a := fun q => by
      obtain ⟨o, e, vs, hd⟩ := it.live j2
      exact wr.nofld (q ▸ e) hd
    have j3 := it.frame j2 N3 (fun q => hIa (List.mem_singleton.mp q)) fun c hc => .inr (by rw [List.mem_singleton.mp hc]; exact wr.noseq)
    have hD3 := plN hD2 N3 (fun q => hDa (List.mem_singleton.mp q))
    have hy3 := hy2.st (Mv.of1 N3 wr.noseq)
    -- the inner source
    refine wpAny_bind (wpAny_mono (src i _ hP O (D :: B) s₀ s3 (fun v2 s5 => codeAny (model PW w) A (.compStart (lc2 elt (.Name x px) i1 (.Name y py) i2 scope pos) 1 v2 (.ref D) ce) (fun r s' => match r with | .ok f => ∃ m, m < Ps.length + 1 - i ∧ ∃ i' ys, m = Ps.length + 1 - i' ∧ i' ≤ Ps.length ∧ Fm b O (D :: B) ce s₀ G s' ∧ J (D :: B) i' s'.heap ∧ s'.heap.PlainList D ys ∧ AllR (D :: B) s'.heap (flat (fun i => (List.range (Ps2 i).length).map (R2 i)) i') ys.toList | .error e => cameBackBy (model PW w) A ce (notedBy (model PW w) A ce fun e s' => RR (.error e) s') e s') s5) _ F3 fun I2 J2 s5 N5 it2 j20 hI2 => ?_) (fun v1 s4 h4 => ?_) fun _ _ e => e)
    · have F5 := F3.step N5
      have j5 := it.frame j3 N5 (List.not_mem_nil) fun c hc => nomatch hc
      have hD5 := plN hD3 N5 List.not_mem_nil
      have hy5 := hy3.st (Mv.of0 N5)
      have hlen := hy5.len
      have hII : I ≠ I2 := fun q => by
        obtain ⟨o, e, _⟩ := it.live j3
        have := Heap.lt_size e
        rw [q] at this
        exact absurd this (Nat.not_lt.mpr hI2)
      have kst : ∀ s1 s2 a, J (D :: B) (i + 1) s1.heap → Nx b [a] s1 s2 → ((a = I2 ∧ ∀ o, s1.heap.get? a = some o → ∀ its n, o.data ≠ .seq its n) ∨ a = D ∨ Wr s1 a) → J (D :: B) (i + 1) s2.heap := by
        intro u1 u2 c hj N hc
        rcases hc with ⟨rfl, hns⟩ | rfl | hw
        · exact it.frame hj N (fun q => hII (List.mem_singleton.mp q)) fun d hd => .inr (by rw [List.mem_singleton.mp hd]; exact hns)
        · exact it.frame hj N (fun q => hne (List.mem_singleton.mp q).symm) fun d hd => .inl (by rw [List.mem_singleton.mp hd]; exact .head _)
        · refine it.frame hj N (fun q => ?_) fun d hd => .inr (by rw [List.mem_singleton.mp hd]; exact hw.noseq)
          obtain ⟨o, e, vs, hd⟩ := it.live hj
          exact hw.nofld ((List.mem_singleton.mp q) ▸ e) hd
      have hlz := hsz (i + 1) hlt
      rw [flat, List.length_append, List.length_map, List.length_range] at hlz
      have loop : codeAny (model PW w) A (.compLoop (lc2 elt (.Name x px) i1 (.Name y py) i2 scope pos) 1 (.ref I2) (.ref D) ce) _ s5 :=
        comp_in (RR := (fun r s' => match r with | .ok f => ∃ m, m < Ps.length + 1 - i ∧ ∃ i' ys, m = Ps.length + 1 - i' ∧ i' ≤ Ps.length ∧ Fm b O (D :: B) ce s₀ G s' ∧ J (D :: B) i' s'.heap ∧ s'.heap.PlainList D ys ∧ AllR (D :: B) s'.heap (flat (fun i => (List.range (Ps2 i).length).map (R2 i)) i') ys.toList | .error e => cameBackBy (model PW w) A ce (notedBy (model PW w) A ce fun e s' => RR (.error e) s') e s')) (K := fun s => J (D :: B) (i + 1) s.heap) kst (fun s1 s2 hj N => it.frame hj N List.not_mem_nil (fun _ h => nomatch h)) hA it2 F5 (Nat.le_trans F3.nx.sz hI2) fD gD hy
          (by rw [List.lookup_cons, hxy]; exact hGy) j20 hD5 hy5 j5 hlz (turn i _ hP) fun s6 ys6 F6 j6 hD6 hy6 => ⟨Ps.length + 1 - (i + 1), sub_step hlt, i + 1, ys6, rfl, hlt, F6.sub (lookup_drop hGx), j6, hD6, hy6⟩
      exact codeAny_compStart2 (by decide) loop (it2.self (B := D :: B) j20 loop)
    · refine wpAny_bind (wpAny_standAt (wpAny_bind (wpAny_of_eq (hs v1) (wpAny_bind (wpAny_holding (wpAny_mono h4 (fun v2 s5 h5 => ?_) fun _ _ e => e))))))
      refine wpAny_bind (wpAny_runOwn (codeAny_mono h5 fun r s' hr => ?_))
      cases r with
      | ok f => exact wpAny_pure ⟨rfl, hr⟩
      | error e => exact hr
  · have : i = Ps.length := Nat.le_antisymm hi (Nat.not_lt.mp hlt)
    subst this
    refine it.done hA F1.st j1 fun s2 N2 => ?_
    have hIn : ∀ o, s1.heap.get? I = some o → ∀ its n, o.data ≠ .seq its n := by
      obtain ⟨o, e, vs, hd⟩ := it.live j1
      exact noseq_fields e hd
    exact wpAny_pure (hR s2 ys (stepI F1 j1 N2) (plN hD1 N2 (fun q => hne (List.mem_singleton.mp q))) (hy1.st (Mv.of1 N2 hIn)))

end
end Mine
end -- V7
section -- V8
/-! built-ins and displays -/
set_option maxRecDepth 100000
namespace Mine
open PySem PySem.W PySem.Calls PyProof.Rows Builtin
set_option maxHeartbeats 400000

section
variable {w : World} {A : Around} {E : Value → Shared → Prop} {s s₀ : Shared} {b : Heap} {mg mb : Str → Option Value} {bm : Addr} {ob : Obj} {env : Env} {G : List (Str × VP)} {B : List Addr} {O : List Str}

theorem Nx.keep {h' : Heap} {tk : Nat} (st : St b s) (hk : ∀ c o, s.heap.get? c = some o → h'.get? c = some o) (hs : s.heap.objs.size ≤ h'.objs.size) : Nx b [] s { s with heap := h', toks := tk } := Nx.all st hk rfl rfl rfl hs

theorem CS.sum {ns : List Int} (hA : A.handled = none) : CS w b A (.builtin "sum") [intsV ns] (intV ns.sum) := fun B s vs Q E st lB ar hq => by
    obtain ⟨v, rfl, a, its, e, g, hB, ⟨n, hp⟩, r⟩ := ar.one
    subst e
    have hi := r.ints
    obtain ⟨xs, hx⟩ := hi.allInts.items
    have hits : its = intItems xs := by rw [← hx]
    subst hits
    refine wpAny_size (Nat.le_refl _) (sum_intListG hA ⟨_, hp, rfl, n, rfl⟩ fun h' tk t' hk hs => ?_)
    refine hq _ _ (Nx.keep st hk hs) ⟨t', ?_⟩
    rw [preSum_eq, List.take_of_length_le (by simp), ← nums_intItems, hi.numsOf]
theorem CS.lenL {Ps : List VP} (hn : Ps.length ≤ 1000000) : CS w b A (.builtin "len") [lstV Ps] (intV Ps.length) := fun B s vs Q E st lB ar hq => by
    obtain ⟨v, rfl, a, its, e, g, hB, ⟨n, hp⟩, r⟩ := ar.one
    subst e
    have hl := r.len
    rw [Array.length_toList] at hl
    exact Calls.call_len_list ⟨_, hp, rfl, n, rfl⟩ (by rw [hl]; omega) (hq _ _ (Nx.fresh st) ⟨_, by rw [hl]⟩)
theorem CS.lenS {x : Str} (hn : x.length ≤ 1000000) : CS w b A (.builtin "len") [strV x] (intV x.length) := fun B s vs Q E st lB ar hq => by
    obtain ⟨v, rfl, t, e⟩ := ar.one
    subst e
    exact P.len_str (by omega) (hq _ _ (Nx.fresh st) ⟨_, rfl⟩)

theorem min_unique {ns : List Int} {M m : Int} (h1 : M ∈ ns) (h2 : ∀ a, a ∈ ns → M ≤ a) (h3 : m ∈ ns) (h4 : ∀ a, a ∈ ns → m ≤ a) : M = m := Int.le_antisymm (h2 _ h3) (h4 _ h1)
theorem CS.min {ns : List Int} {m : Int} (hA : A.handled = none) (hm : m ∈ ns) (hle : ∀ a, a ∈ ns → m ≤ a) : CS w b A (.builtin "min") [intsV ns] (intV m) := fun B s vs Q E st lB ar hq => by
    obtain ⟨v, rfl, a, its, e, g, hB, ⟨n, hp⟩, r⟩ := ar.one
    subst e
    have hi := r.ints
    obtain ⟨xs, hx⟩ := hi.allInts.items
    have hits : its = intItems xs := by rw [← hx]
    subst hits
    have hne : 0 < xs.size := by
      have h1 := hi.length
      have h2 : 0 < ns.length := List.length_pos_of_mem hm
      have h3 : (intItems xs).toList.length = xs.size := by simp [intItems]
      omega
    refine wpAny_size (Nat.le_refl _) (min_intList hA ⟨_, hp, rfl, n, rfl⟩ hne fun v h' tk hv hk hs => ?_)
    obtain ⟨t, rfl⟩ := intItems_at hv
    obtain ⟨h1, h2⟩ := argBest_lt (numAt xs) (xs.size - 1)
    have hns : ns = xs.toList.map (·.1) := by rw [← nums_intItems, hi.numsOf]
    refine hq _ _ (Nx.keep st hk hs) ⟨t, ?_⟩
    congr 1
    refine min_unique (ns := ns) ?_ (fun a ha => ?_) hm hle
    · rw [numAt_eq, hns]; exact getD_mem (by rw [List.length_map, Array.length_toList]; omega)
    · rw [hns] at ha
      obtain ⟨j, hj, rfl⟩ := mem_getD ha
      rw [List.length_map, Array.length_toList] at hj
      rw [← numAt_eq]; exact h2 j (by omega)

/-- a method of a text, one argument -/
theorem EV.meth1 {e1 e2 : Expr} {name : Str} {id : String} {x : Str} {apos pos : Pos} {P2 P : VP} (h1 : EV w b A env G e1 (strV x)) (h2 : EV w b A env G e2 P2)
    (hg : ∀ {t : Tok} {pl : Sem Bool} {Q : Value × List Value → Shared → Prop} {E : Value → Shared → Prop} {s : Shared}, Q (.builtin id, [.str x t]) s → wpAny (model PW w) A (getMethod (.str x t) name pl) Q E s)
    (hc : CS w b A (.builtin id) [strV x, P2] P) (he : starEach [e2] env = (false, eval e2 env) :: starEach [] env := by rfl) (hplain : (backTo pos (starEach ([] : List Expr) env)).any (·.1) = false := by rfl) {pl : Sem Bool}
    (hev : eval (.Call (.Attribute e1 name apos) [e2] [] pos) env = (do
      let ov ← eval e1 env
      standAt apos.atName
      let (f, first) ← holding [ov] (getMethod ov name pl)
      callWith pos f first (backTo pos (starEach [e2] env)) []) := by with_unfolding_all rfl) :
    EV w b A env G (.Call (.Attribute e1 name apos) [e2] [] pos) P := fun O B s₀ s Q E F hq =>
  MethodCall_ (h1 O B s₀ s _ _ F fun v s1 N1 ⟨t, e⟩ => by
    subst e
    exact hg (PyProof.Rows.callWith_method1 (spliced_more (h2 O B s₀ s1 _ _ (F.step N1) fun v2 s2 N2 p2 => spliced_none (hc B s2 [.str x t, v2] Q E N2.st (F.step (N1.tr N2)).lB ⟨⟨t, rfl⟩, p2, trivial⟩ fun v s3 N3 p3 => hq v s3 ((N1.tr N2).tr N3) p3)) he) he hplain)) hev

theorem CS.find {x y : Str} : CS w b A (.builtin "str.find") [strV x, strV y] (intV (Txt.find x y)) := fun B s vs Q E st lB ar hq => by
    obtain ⟨v1, v2, rfl, ⟨t, e1⟩, u, e2⟩ := ar.two
    subst e1 e2; exact SC.find (hq _ _ (Nx.fresh st) ⟨_, rfl⟩)
theorem CS.count {x y : Str} : CS w b A (.builtin "str.count") [strV x, strV y] (intV (Txt.count x y)) := fun B s vs Q E st lB ar hq => by
    obtain ⟨v1, v2, rfl, ⟨t, e1⟩, u, e2⟩ := ar.two
    subst e1 e2; exact SC.count (hq _ _ (Nx.fresh st) ⟨_, rfl⟩)
theorem CS.join {x : Str} {ys : List Str} (h : (ys.map (·.length)).sum + ys.length * x.length ≤ 16777216) : CS w b A (.builtin "str.join") [strV x, strsV ys] (strV (Txt.join x ys)) := fun B s vs Q E st lB ar hq => by
    obtain ⟨v1, v2, rfl, ⟨t, e1⟩, a, its, e2, g, hB, ⟨n, hp⟩, r⟩ := ar.two
    subst e1 e2
    exact PyProof.Rows.join_list ⟨_, hp, rfl, n, rfl⟩ r.strs h fun t' k => hq _ _ (Nx.fresh st) ⟨_, rfl⟩
theorem EV.find {e1 e2 : Expr} {apos pos : Pos} {x y : Str} (h1 : EV w b A env G e1 (strV x)) (h2 : EV w b A env G e2 (strV y)) (he : starEach [e2] env = (false, eval e2 env) :: starEach [] env := by rfl) {pl : Sem Bool}
    (hev : eval (.Call (.Attribute e1 "find" apos) [e2] [] pos) env = (do
      let ov ← eval e1 env
      standAt apos.atName
      let (f, first) ← holding [ov] (getMethod ov "find" pl)
      callWith pos f first (backTo pos (starEach [e2] env)) []) := by with_unfolding_all rfl) : EV w b A env G (.Call (.Attribute e1 "find" apos) [e2] [] pos) (intV (Txt.find x y)) := .meth1 h1 h2 GM.find CS.find he (by rfl) hev
theorem EV.count {e1 e2 : Expr} {apos pos : Pos} {x y : Str} (h1 : EV w b A env G e1 (strV x)) (h2 : EV w b A env G e2 (strV y)) (he : starEach [e2] env = (false, eval e2 env) :: starEach [] env := by rfl) {pl : Sem Bool}
    (hev : eval (.Call (.Attribute e1 "count" apos) [e2] [] pos) env = (do
      let ov ← eval e1 env
      standAt apos.atName
      let (f, first) ← holding [ov] (getMethod ov "count" pl)
      callWith pos f first (backTo pos (starEach [e2] env)) []) := by with_unfolding_all rfl) : EV w b A env G (.Call (.Attribute e1 "count" apos) [e2] [] pos) (intV (Txt.count x y)) := .meth1 h1 h2 GM.count CS.count he (by rfl) hev
theorem EV.join {e1 e2 : Expr} {apos pos : Pos} {x : Str} {ys : List Str} (h1 : EV w b A env G e1 (strV x)) (h2 : EV w b A env G e2 (strsV ys)) (h : (ys.map (·.length)).sum + ys.length * x.length ≤ 16777216) (he : starEach [e2] env = (false, eval e2 env) :: starEach [] env := by rfl) {pl : Sem Bool}
    (hev : eval (.Call (.Attribute e1 "join" apos) [e2] [] pos) env = (do
      let ov ← eval e1 env
      standAt apos.atName
      let (f, first) ← holding [ov] (getMethod ov "join" pl)
      callWith pos f first (backTo pos (starEach [e2] env)) []) := by with_unfolding_all rfl) : EV w b A env G (.Call (.Attribute e1 "join" apos) [e2] [] pos) (strV (Txt.join x ys)) := .meth1 h1 h2 GM.join (CS.join h) he (by rfl) hev

/-- items -/
theorem EV.item {e1 e2 : Expr} {pos : Pos} {Ps : List VP} {P : VP} {k : Int} (h1 : EV w b A env G e1 (lstV Ps)) (h2 : EV w b A env G e2 (intV k)) (h0 : 0 ≤ k) (hk : k < 2 ^ 63) (hP : Ps[k.toNat]? = some P)
    (hs : ∀ (l : Addr) (u : Tok), subscripted e2 false (.ref l) (.int k u) = operate [.ref l, .int k u] (getItem (.ref l) (.int k u)) := by intro _ _; with_unfolding_all rfl) : EV w b A env G (.Subscript e1 e2 pos) P := fun O B s₀ s Q E F hq =>
  Subscript_ (h1 O B s₀ s _ _ F fun v s1 N1 p1 => h2 O B s₀ s1 _ _ (F.step N1) fun v2 s2 N2 ⟨u, e2⟩ => by
    have p1' := (lstV Ps).st (Mv.of0 N2) p1
    obtain ⟨a, its, e1, g, hB, ⟨n, hp⟩, r⟩ := p1'
    subst e1 e2
    obtain ⟨x, hx, px⟩ := r.get hP
    have hl : s2.heap.IsList a its := ⟨_, hp, rfl, n, rfl⟩
    exact tail_any hl.typeIs slot_list_getitem.lookup (wpAny_getItem_list hl h0 hk (by rw [← Array.getElem?_toList]; exact hx) (hq x s2 (N1.tr N2) px)) (hs _ _))
theorem EV.itemS {e1 e2 : Expr} {pos : Pos} {x : Str} {k : Int} {c : Nat} (h1 : EV w b A env G e1 (strV x)) (h2 : EV w b A env G e2 (intV k)) (hr : (decide (k < -(2 ^ 63 : Int)) || decide (k ≥ 2 ^ 63)) = false) (hc : (seqIndex? k x.length).bind (x.cps[·]?) = some c)
    (hs : ∀ (t u : Tok), subscripted e2 false (.str x t) (.int k u) = operate [.str x t, .int k u] (getItem (.str x t) (.int k u)) := by intro _ _; with_unfolding_all rfl) : EV w b A env G (.Subscript e1 e2 pos) (strV ⟨#[c]⟩) := fun O B s₀ s Q E F hq =>
  Subscript_ (h1 O B s₀ s _ _ F fun v s1 N1 ⟨t, e1⟩ => h2 O B s₀ s1 _ _ (F.step N1) fun v2 s2 N2 ⟨u, e2⟩ => by
    subst e1 e2
    exact tail_any (typeIs_str _ _ _) PySem.F.slot_str_getitem.lookup (PySem.P.getItem_str hr hc (hq _ _ (N1.tr N2).toks ⟨_, rfl⟩)) (hs _ _))
/-- x[:k], x[k:] -/
theorem EV.sliceTo {e1 e2 : Expr} {p pos : Pos} {x : Str} {k : Int} (h1 : EV w b A env G e1 (strV x)) (h2 : EV w b A env G e2 (intV k)) (hx : x.length ≤ 1000000)
    (hs : ∀ (t : Tok) (a : Addr), subscripted (.Slice none (some e2) none p) false (.str x t) (.ref a) = operate [.ref a, .str x t] (getItem (.str x t) (.ref a)) := by intro _ _; with_unfolding_all rfl) : EV w b A env G (.Subscript e1 (.Slice none (some e2) none p) pos) (strV (Txt.slice x none (some k))) := fun O B s₀ s Q E F hq =>
  Subscript_ (h1 O B s₀ s _ _ F fun v s1 N1 ⟨t, e1⟩ => by
    subst e1
    refine wpAny_Slice ?_
    rw [evalPart_none, evalPart_some]
    refine wpAny_pure (h2 O B s₀ s1 _ _ (F.step N1) fun v2 s2 N2 ⟨u, e2⟩ => ?_)
    subst e2
    refine wpAny_pure ?_
    have N3 := Nx.push N2.st (o := { cls := .type "slice", data := .fields #[.none, .int k u, .none] })
    exact tail_any (typeIs_str _ _ _) PySem.F.slot_str_getitem.lookup (wpAny_getItem_str_slice (l := none) (u := some (k, u)) (st := none) ⟨_, Heap.get?_push_size _ rfl, rfl, rfl⟩ rfl
      (post_val_or_str ⟨Nat.le_trans (Txt.slice_le x _ _) (Nat.le_trans hx (by decide)), fun t' k' => hq _ _ ((N1.tr N2).tr N3).toks ⟨_, rfl⟩⟩)) (hs _ _))
theorem EV.sliceFrom {e1 e2 : Expr} {p pos : Pos} {x : Str} {k : Int} (h1 : EV w b A env G e1 (strV x)) (h2 : EV w b A env G e2 (intV k)) (hx : x.length ≤ 1000000)
    (hs : ∀ (t : Tok) (a : Addr), subscripted (.Slice (some e2) none none p) false (.str x t) (.ref a) = operate [.ref a, .str x t] (getItem (.str x t) (.ref a)) := by intro _ _; with_unfolding_all rfl) : EV w b A env G (.Subscript e1 (.Slice (some e2) none none p) pos) (strV (Txt.slice x (some k) none)) := fun O B s₀ s Q E F hq =>
  Subscript_ (h1 O B s₀ s _ _ F fun v s1 N1 ⟨t, e1⟩ => by
    subst e1
    refine wpAny_Slice ?_
    rw [evalPart_none, evalPart_some]
    refine h2 O B s₀ s1 _ _ (F.step N1) fun v2 s2 N2 ⟨u, e2⟩ => wpAny_pure ?_
    subst e2
    refine wpAny_pure ?_
    have N3 := Nx.push N2.st (o := { cls := .type "slice", data := .fields #[.int k u, .none, .none] })
    exact tail_any (typeIs_str _ _ _) PySem.F.slot_str_getitem.lookup (wpAny_getItem_str_slice (l := some (k, u)) (u := none) (st := none) ⟨_, Heap.get?_push_size _ rfl, rfl, rfl⟩ rfl
      (post_val_or_str ⟨Nat.le_trans (Txt.slice_le x _ _) (Nat.le_trans hx (by decide)), fun t' k' => hq _ _ ((N1.tr N2).tr N3).toks ⟨_, rfl⟩⟩)) (hs _ _))

/-- displays -/
theorem EV.list {es : List Expr} {pos : Pos} {Ps : List VP} (W : WW w b mg mb bm ob) (h : ES w b A env G es Ps) (hn : Ps.length ≤ 1000) : EV w b A env G (.List es pos) (lstV Ps) := fun O B s₀ s Q E F hq =>
  List_ (h O B s₀ s pos _ _ F fun vs s1 N1 r => wpAny_newObj_type (by
    have N2 := Nx.push N1.st (o := { cls := .type "list", data := .seq vs.toArray })
    refine hq _ _ (N1.tr N2) ⟨_, vs.toArray, rfl, N1.st.lt W, fun q => Nat.lt_irrefl _ ((F.step N1).lB _ q), ⟨0, Heap.get?_push_size _ rfl⟩, ?_⟩
    exact r.st (Mv.of0 N2)) (by show vs.toArray.size ≤ sizeLine; rw [List.size_toArray, r.len]; exact Nat.le_trans hn (by decide)))
theorem EV.tuple {es : List Expr} {k : Nat} {pos : Pos} {Ps : List VP} (W : WW w b mg mb bm ob) (h : ES w b A env G es Ps) (hn : Ps.length ≤ 1000) : EV w b A env G (.Tuple es k pos) (tupV Ps) := fun O B s₀ s Q E F hq =>
  Tuple_ (h O B s₀ s pos _ _ F fun vs s1 N1 r => wpAny_newObj_type (by
    have N2 := Nx.push N1.st (o := { cls := .type "tuple", data := .seq vs.toArray })
    refine hq _ _ (N1.tr N2) ⟨_, vs.toArray, rfl, N1.st.lt W, fun q => Nat.lt_irrefl _ ((F.step N1).lB _ q), ⟨_, Heap.get?_push_size _ rfl, rfl, _, rfl⟩, ?_⟩
    exact r.st (Mv.of0 N2)) (by show vs.toArray.size ≤ sizeLine; rw [List.size_toArray, r.len]; exact Nat.le_trans hn (by decide)))
end
end Mine
end -- V8
section -- V9
/-! more expressions -/
set_option maxRecDepth 100000
namespace Mine
open PySem PySem.W PySem.Calls PyProof.Rows Builtin
set_option maxHeartbeats 400000

section
variable {w : World} {A : Around} {E : Value → Shared → Prop} {s s₀ : Shared} {b : Heap} {mg mb : Str → Option Value} {bm : Addr} {ob : Obj} {env : Env} {G : List (Str × VP)} {B : List Addr} {O : List Str}

/-- a list of ints that the call was handed -/
noncomputable def scrV (ns : List Int) : VP := ⟨fun B v h => ∃ a its, v = .ref a ∧ a ∉ tabs ∧ a ∉ B ∧ h.IsList a its ∧ IntsAre its.toList ns,
  fun m ⟨a, its, e, g, hB, ⟨o, ho, hc, n, hd⟩, r⟩ => ⟨a, its, e, g, hB, ⟨o, (let ⟨X, N, V⟩ := m; N.kp a o g (fun h => (V a h).elim hB fun q => q o ho its n hd) ho), hc, n, hd⟩, r⟩,
  fun hd ⟨a, its, e, g, hB, ⟨o, ho, hp⟩, r⟩ => ⟨a, its, e, g, fun q => by rcases List.mem_cons.mp q with q | q; (rw [q, hd] at ho; cases ho); exact hB q, ⟨o, ho, hp⟩, r⟩,
  fun ⟨a, its, e, g, hB, hp, r⟩ => ⟨a, its, e, g, fun q => hB (.tail _ q), hp, r⟩⟩

theorem EV.shr {e1 e2 : Expr} {pos : Pos} {i j : Int} (h1 : EV w b A env G e1 (intV i)) (h2 : EV w b A env G e2 (intV j)) (hn : 0 ≤ j) : EV w b A env G (.BinOp e1 .RShift e2 pos) (intV (i.fdiv (2 ^ j.toNat))) :=
  .bin h1 h2 fun B v1 v2 s Q E st lB ⟨t, e⟩ ⟨u, e'⟩ hq => by subst e e'; exact PyProof.Rows.rshift_int hn (hq _ _ (Nx.fresh st) ⟨_, rfl⟩)

/-- tests -/
theorem TV.ofInt {e : Expr} {i : Int} (h : EV w b A env G e (intV i)) (he : ∀ whole, isTrue e env whole = (do let v ← whole; standAt e.pos; holding [v] (truthy v)) := by intro _; rfl) : TV w b A env G e (i != 0) := fun O B s₀ s Q E F hq =>
  PyProof.Rows.isTrue_plain (h O B s₀ s _ _ F fun v s1 N1 ⟨t, e1⟩ => by subst e1; exact PyProof.Rows.truthy_int (hq s1 N1)) (he _)
theorem TV.ofBool {e : Expr} {i : Bool} (h : EV w b A env G e (boolV i)) (he : ∀ whole, isTrue e env whole = (do let v ← whole; standAt e.pos; holding [v] (truthy v)) := by intro _; rfl) : TV w b A env G e i := fun O B s₀ s Q E F hq =>
  PyProof.Rows.isTrue_plain (h O B s₀ s _ _ F fun v s1 N1 e1 => by cases e1; exact wpAny_truthy_bool (hq s1 N1)) (he _)
theorem TV.not {e : Expr} {pos : Pos} {c : Bool} (h : TV w b A env G e c) : TV w b A env G (.UnaryOp .Not e pos) (!c) := fun O B s₀ s Q E F hq =>
  PyProof.Rows.isTrue_not (h O B s₀ s _ _ F hq)
theorem TV.orNil {pos : Pos} : TV w b A env G (.BoolOp .Or [] pos) false := fun O B s₀ s Q E F hq => PyProof.Rows.isTrue_or_nil (hq s (Nx.refl F.st))
theorem TV.andNil {pos : Pos} : TV w b A env G (.BoolOp .And [] pos) true := fun O B s₀ s Q E F hq => PyProof.Rows.isTrue_and_nil (hq s (Nx.refl F.st))
theorem TV.or {e : Expr} {es : List Expr} {pos : Pos} {c d : Bool} (h : TV w b A env G e c) (hd : c = false → TV w b A env G (.BoolOp .Or es pos) d) : TV w b A env G (.BoolOp .Or (e :: es) pos) (c || d) := fun O B s₀ s Q E F hq =>
  PyProof.Rows.isTrue_or (h O B s₀ s _ _ F fun s1 N1 => by
    cases c with
    | true => exact hq s1 N1
    | false => exact hd rfl O B s₀ s1 _ _ (F.step N1) fun s2 N2 => hq s2 (N1.tr N2))
theorem TV.and {e : Expr} {es : List Expr} {pos : Pos} {c d : Bool} (h : TV w b A env G e c) (hd : c = true → TV w b A env G (.BoolOp .And es pos) d) : TV w b A env G (.BoolOp .And (e :: es) pos) (c && d) := fun O B s₀ s Q E F hq =>
  PyProof.Rows.isTrue_and (h O B s₀ s _ _ F fun s1 N1 => by
    cases c with
    | false => exact hq s1 N1
    | true => exact hd rfl O B s₀ s1 _ _ (F.step N1) fun s2 N2 => hq s2 (N1.tr N2))
theorem EV.and2 {e1 e2 : Expr} {pos : Pos} {c d : Bool} (h1 : EV w b A env G e1 (boolV c)) (h2 : EV w b A env G e2 (boolV d)) : EV w b A env G (.BoolOp .And [e1, e2] pos) (boolV (c && d)) := fun O B s₀ s Q E F hq =>
  PyProof.Rows.BoolOp_and (h1 O B s₀ s _ _ F fun v s1 N1 e1 => by
    cases e1
    refine wpAny_truthy_bool ?_
    cases c with
    | false => exact hq _ s1 N1 rfl
    | true =>
      rw [if_pos rfl]
      show wpAny _ _ (eval _ env) _ _ _
      exact h2 O B s₀ s1 _ _ (F.step N1) fun v2 s2 N2 e2 => hq v2 s2 (N1.tr N2) e2)

theorem anyInts {i : Int} : ∀ {vs : List Value} {ns : List Int}, IntsAre vs ns → (vs.any fun y => match y with | .int k _ => k == i | _ => false) = ns.any (· == i)
  | _, _, .nil => rfl
  | _, _, .cons n t h => by rw [List.any_cons, List.any_cons, anyInts h]
/-- membership in a list of ints -/
theorem TV.inInts {e1 e2 : Expr} {pos : Pos} {i : Int} {ns : List Int} (hu : A.units < cLine) (h1 : EV w b A env G e1 (intV i)) (h2 : EV w b A env G e2 (intsV ns)) (hm : behindInMarks .In e2 = false := by with_unfolding_all rfl) : TV w b A env G (.Compare e1 [.In] [e2] pos) (ns.any (· == i)) :=
  .cmp h1 h2 (fun B v1 v2 s Q E st lB ⟨t, e⟩ ⟨a, its, e', g, hB, ⟨n, hp⟩, r⟩ hq => by
    subst e e'
    have hi := r.ints
    refine SeqAt.in_listAt (fun y => match y with | .int k _ => k == i | _ => false) ⟨_, hp, rfl, n, rfl⟩ (fun y hy => ?_) ?_
    · have : y ∈ its.toList := Array.mem_toList_iff.mpr hy
      obtain ⟨k, u, rfl⟩ := hi.all y this
      exact SeqAt.EqAt.int_int k u i t
    · have e : its.any (fun y => match y with | .int k _ => k == i | _ => false) = ns.any (· == i) := by
        rw [← Array.any_toList]
        exact anyInts hi
      rw [e]
      exact hq _ _ (Nx.refl st) rfl) hm

/-- two equal lists of texts are not unequal -/
theorem TV.neEq {e1 e2 : Expr} {pos : Pos} {xs : List Str} (hu : A.units < cLine) (h1 : EV w b A env G e1 (strsV xs)) (h2 : EV w b A env G e2 (strsV xs)) (hm : behindInMarks .NotEq e2 = false := by with_unfolding_all rfl) : TV w b A env G (.Compare e1 [.NotEq] [e2] pos) false :=
  .cmp h1 h2 (fun B v1 v2 s Q E st lB ⟨a, its, e, g, hB, ⟨n, hp⟩, r⟩ ⟨a', its', e', g', hB', ⟨n', hp'⟩, r'⟩ hq => by
    subst e e'
    have hi := r.strs
    have hi' := r'.strs
    have l1 := StrsAre.len_eq hi
    have l2 := StrsAre.len_eq hi'
    rw [Array.length_toList] at l1 l2
    have key : ∀ {vs vs' : List Value} {xs : List Str}, StrsAre vs xs → StrsAre vs' xs → ∀ j (h1 : j < vs.length) (h2 : j < vs'.length), ∃ x t u, vs[j] = .str x t ∧ vs'[j] = .str x u := by
      intro vs vs' xs h
      induction h generalizing vs' with
      | nil => intro h' j h1; exact absurd h1 (Nat.not_lt_zero _)
      | cons x t _ ih =>
        intro h' j h1 h2
        cases h' with
        | cons _ u h'' =>
          cases j with
          | zero => exact ⟨x, t, u, rfl, rfl⟩
          | succ j => exact ih h'' j (Nat.lt_of_succ_lt_succ h1) (Nat.lt_of_succ_lt_succ h2)
    refine EqBoolInt.of_rcne (SeqAt.RcNeAt.lists (e := fun _ => true) ⟨_, hp, rfl, n, rfl⟩ ⟨_, hp', rfl, n', rfl⟩ (l1.trans l2.symm) hu (fun j h1 h2 => ?_)) ?_
    · obtain ⟨x, t, u, e1, e2⟩ := key hi hi' j (by rw [Array.length_toList]; exact h1) (by rw [Array.length_toList]; exact h2)
      have e1' : its[j] = .str x t := by rw [← e1]; simp
      have e2' : its'[j] = .str x u := by rw [← e2]; simp
      rw [e1', e2']
      have := SeqAt.EqAt.str_str (A := A.in1) (s := s) x t x u
      simpa using this
    · have e : (!(List.range its.size).all fun _ => true) = false := by simp
      rw [e]
      exact hq _ _ (Nx.refl st) rfl) hm
theorem TV.neNil {e1 e2 : Expr} {pos : Pos} (hu : A.units < cLine) (h1 : EV w b A env G e1 (lstV [])) (h2 : EV w b A env G e2 (lstV [])) (hm : behindInMarks .NotEq e2 = false := by with_unfolding_all rfl) : TV w b A env G (.Compare e1 [.NotEq] [e2] pos) false :=
  TV.neEq (xs := []) hu h1 h2 hm

/-- x * n -/
noncomputable def mulS (x : Str) (n : Int) : Str := ⟨(List.replicate n.toNat x.cps).foldl (· ++ ·) #[]⟩
theorem EV.muls {e1 e2 : Expr} {pos : Pos} {x : Str} {n : Int} (h1 : EV w b A env G e1 (strV x)) (h2 : EV w b A env G e2 (intV n)) (hn : 1 ≤ n) (hn' : n ≤ 1000) (hx : x.length = 1) : EV w b A env G (.BinOp e1 .Mult e2 pos) (strV (mulS x n)) :=
  .bin h1 h2 fun B v1 v2 s Q E st lB ⟨t, e⟩ ⟨u, e'⟩ hq => by
    subst e e'
    refine PySem.P.mul_str ?_ (fun _ _ => ?_) (fun _ _ => ?_) ?_
    · rw [decide_eq_false (by omega), decide_eq_false (by omega)]; rfl
    · rw [hx]
      have : (1 : Int) ≤ (2 ^ 63 - 1) / n := (Int.le_ediv_iff_mul_le (by omega)).mpr (by omega)
      omega
    · unfold Builtin.Str.tooLong sizeLine
      rw [hx]
      exact decide_eq_false (by omega)
    · rw [if_neg (by omega)]
      by_cases h1 : n = 1
      · subst h1
        rw [if_pos (by simp)]
        have : x = mulS x 1 := by unfold mulS; simp
        exact hq _ _ (Nx.refl st) ⟨t, by rw [← this]⟩
      · rw [if_neg (by simp [hx, h1])]
        refine ⟨?_, hq _ _ (Nx.fresh st) ⟨_, rfl⟩⟩
        have key : ∀ (l : List (Array Nat)) (acc : Array Nat), (∀ y ∈ l, y.size = 1) → (l.foldl (· ++ ·) acc).size = acc.size + l.length := by
          intro l
          induction l with
          | nil => intro acc _; simp
          | cons y l ih =>
            intro acc h
            rw [List.foldl_cons, ih _ fun z hz => h z (.tail _ hz), Array.size_append, h y (.head _), List.length_cons]
            omega
        have := key (List.replicate n.toNat x.cps) #[] fun y hy => by rw [List.eq_of_mem_replicate hy]; exact hx
        have e : sizeLine = 2 ^ 24 := by decide
        show (List.foldl (· ++ ·) #[] (List.replicate n.toNat x.cps)).size ≤ sizeLine
        rw [this, List.length_replicate, e]
        show 0 + n.toNat ≤ _
        omega

/-- slices of lists of ints -/
theorem IE.scr40 {e1 e2 : Expr} {p pos : Pos} {ns : List Int} {k : Int} (hA : A.handled = none) (W : WW w b mg mb bm ob) (h1 : EV w b A env G e1 (scrV ns)) (h2 : EV w b A env G e2 (intV k)) (hsz : ns.length ≤ 100000)
    (hs : ∀ (l a : Addr), subscripted (.Slice none (some e2) none p) false (.ref l) (.ref a) = operate [.ref a, .ref l] (getItem (.ref l) (.ref a)) := by intro _ _; with_unfolding_all rfl)
    (ht : ∀ l r, letTemporaryGo e1 (.ref l) r = pure () := by intro _ _; with_unfolding_all rfl) :
    EV w b A env G (.Subscript e1 (.Slice none (some e2) none p) pos) (intsV (pickNums ns none (some k) none)) := fun O B s₀ s Q E F hq =>
  Subscript_ (h1 O B s₀ s _ _ F fun v s1 N1 p1 => by
    refine wpAny_Slice ?_
    rw [evalPart_none, evalPart_some]
    refine wpAny_pure (h2 O B s₀ s1 _ _ (F.step N1) fun v2 s2 N2 ⟨u, e2⟩ => ?_)
    subst e2
    refine wpAny_pure ?_
    have N3 := Nx.push N2.st (o := { cls := .type "slice", data := .fields #[.none, .int k u, .none] })
    obtain ⟨a, its, e, g, hB, hl, hi⟩ := (scrV ns).st (Mv.of0 (N2.tr N3)) p1
    subst e
    have hsz' : its.size = ns.length := by have := hi.length; rwa [Array.length_toList] at this
    refine PyProof.Rows.subscriptTail_ops hl.typeIs list_getitem_lookup (wpAny_getItem_list_slice hl (Heap.IsSliceOf.new ..) .none (.int k u) .none (by simp) ?_ (by rw [hsz']; exact Nat.le_trans hsz (by decide))) (hs _ _) (ht _)
    have N4 := Nx.push N3.st (o := { cls := .type "list", data := .seq (slicePick its none (some k) none) })
    refine hq _ _ (((N1.tr N2).tr N3).tr N4) ⟨_, _, rfl, N3.st.lt W, fun q => Nat.lt_irrefl _ ((F.step ((N1.tr N2).tr N3)).lB _ q), ⟨0, Heap.get?_push_size _ rfl⟩, AllR.ofInts ?_⟩
    have := hi.pick none (some k) none
    rwa [Array.toArray_toList] at this)
end
end Mine
end -- V9
section -- V11
/-! a list under construction: hidden, appended to, shown again -/
set_option maxRecDepth 100000
namespace Mine
open PySem PySem.W PySem.Calls PyProof.Rows Builtin
set_option maxHeartbeats 400000

theorem outs_get {α : Type} (l : List α) (g : α → VP) : outs (fun i => (l[i]?).map g) l.length = l.map g := by
  have key : ∀ n, n ≤ l.length → outs (fun i => (l[i]?).map g) n = (l.take n).map g := by
    intro n
    induction n with
    | zero => intro _; rfl
    | succ n ih =>
      intro h
      rw [outs_succ, ih (by omega)]
      have e : l[n]? = some l[n] := List.getElem?_eq_getElem (by omega)
      rw [List.take_add_one, e, List.map_append]
      rfl
  rw [key _ (Nat.le_refl _), List.take_length]

section
variable {w : World} {A : Around} {E : Value → Shared → Prop} {s s₀ : Shared} {b : Heap} {mg mb : Str → Option Value} {bm : Addr} {ob : Obj} {env : Env} {G : List (Str × VP)} {B : List Addr} {O : List Str}

theorem Fm.hide {s2 : Shared} {a : Addr} (F : Fm b O B env s₀ G s) (N : Nx b [] s s2) (ha : s.heap.objs.size ≤ a) (hl : a < s2.heap.objs.size) : Fm b O (a :: B) env s₀ G s2 := by
  have F2 := F.step N
  have hd : s.heap.get? a = none := by
    cases e : s.heap.get? a with
    | none => rfl
    | some o => exact absurd (Heap.lt_size e) (Nat.not_lt.mpr ha)
  obtain ⟨m, hn, hv⟩ := F.vars
  refine ⟨F2.nx, F2.ks, F2.gl, F2.bl, F2.gL, F2.fL, F2.bf, fun d h => ?_, F2.lc, F2.own, m, ns_nx hn N F.gL, fun y P e => ?_⟩
  · rcases List.mem_cons.mp h with rfl | h
    · exact hl
    · exact F2.lB d h
  · obtain ⟨v, hp, hh⟩ := hv y P e
    refine ⟨v, P.st (Mv.of0 N) (P.ext hd hp), ?_⟩
    rcases hh with hh | ⟨hk, c, hc, g, hcl⟩
    · exact .inl hh
    · exact .inr ⟨hk, c, hc, g, cell_nx hcl N g⟩
theorem Fm.unhide {a : Addr} {x : Str} {P : VP} (F : Fm b O (a :: B) env s₀ G s) (hx : G.lookup x = some (isV (.ref a))) (hp : P.p B (.ref a) s.heap) : Fm b O B env s₀ ((x, P) :: G) s := by
  obtain ⟨m, hn, hv⟩ := F.vars
  refine ⟨F.nx, F.ks, F.gl, F.bl, F.gL, F.fL, F.bf, fun d h => F.lB d (.tail _ h), F.lc, F.own, m, hn, fun y P' e => ?_⟩
  rw [List.lookup_cons] at e
  by_cases hy : y = x
  · subst hy
    simp at e
    subst e
    obtain ⟨v, hv', hh⟩ := hv y _ hx
    cases hv'
    exact ⟨_, hp, hh⟩
  · have : (y == x) = false := by simpa using hy
    rw [this] at e
    obtain ⟨v, hv', hh⟩ := hv y P' e
    exact ⟨v, P'.wk hv', hh⟩

/-- an expression whose value is a new list -/
noncomputable def EVF (w : World) (b : Heap) (A : Around) (env : Env) (G : List (Str × VP)) (e : Expr) (P : VP) : Prop :=
  ∀ (O : List Str) (B : List Addr) (s₀ s : Shared) (Q : Value → Shared → Prop) (E : Value → Shared → Prop), Fm b O B env s₀ G s → (∀ a s', Nx b [] s s' → P.p B (.ref a) s'.heap → s.heap.objs.size ≤ a → Q (.ref a) s') → wpAny (model PW w) A (eval e env) Q E s
theorem EVF.list {es : List Expr} {pos : Pos} {Ps : List VP} (W : WW w b mg mb bm ob) (h : ES w b A env G es Ps) (hn : Ps.length ≤ 1000) : EVF w b A env G (.List es pos) (lstV Ps) := fun O B s₀ s Q E F hq =>
  List_ (h O B s₀ s pos _ _ F fun vs s1 N1 r => wpAny_newObj_type (by
    have N2 := Nx.push N1.st (o := { cls := .type "list", data := .seq vs.toArray })
    refine hq _ _ (N1.tr N2) ⟨_, vs.toArray, rfl, N1.st.lt W, fun q => Nat.lt_irrefl _ ((F.step N1).lB _ q), ⟨0, Heap.get?_push_size _ rfl⟩, ?_⟩ N1.sz
    exact r.st (Mv.of0 N2)) (by show vs.toArray.size ≤ sizeLine; rw [List.size_toArray, r.len]; exact Nat.le_trans hn (by decide)))

/-- x.append(e) upon a hidden list of ints -/
theorem st_append {x : Str} {p1 apos pos spos : Pos} {e : Expr} {a : Addr} {its : Array Value} {ns : List Int} {k : Int} {Q : Flow → Shared → Prop} (F : Fm b O (a :: B) env s₀ G s) (hx : G.lookup x = some (isV (.ref a))) (hp : s.heap.PlainList a its) (ga : 232 < a) (fa : s₀.heap.objs.size ≤ a) (hB : a ∉ B) (hi : IntsAre its.toList ns) (hsz : ns.length ≤ 100000)
    (he : EV w b A env ((x, intsV ns) :: G) e (intV k))
    (h : ∀ s' its', Fm b O (a :: B) env s₀ G s' → s'.heap.PlainList a its' → IntsAre its'.toList (ns ++ [k]) → (∃ X, Nx b X s s' ∧ ∀ c ∈ X, c = a) → Q .next s')
    (hd : (x == ("__debug__" : Str)) = false := by decide) (hcd : (x == ("__classdict__" : Str)) = false := by decide) (hse : starEach [e] env = (false, eval e env) :: starEach [] env := by rfl) {pl : Sem Bool}
    (hev : eval (.Call (.Attribute (.Name x p1) "append" apos) [e] [] pos) env = (do
      let ov ← eval (.Name x p1) env
      standAt apos.atName
      let (f, first) ← holding [ov] (getMethod ov "append" pl)
      callWith pos f first (backTo pos (starEach [e] env)) []) := by with_unfolding_all rfl) (hi' : interactive env = false := by rfl) (hs : swapsWith (.Call (.Attribute (.Name x p1) "append" apos) [e] [] pos) none spos.line env = pure false := by rfl) :
    wpAny (model PW w) A (exec (.Expr (.Call (.Attribute (.Name x p1) "append" apos) [e] [] pos) spos) env) Q E s := by
  refine wpAny_Expr_any ?_ hi' hs
  refine MethodCall_ (EV.name hx hd hcd O (a :: B) s₀ s _ _ F fun v s1 N1 hv => ?_) hev
  cases hv
  obtain ⟨n, hp0⟩ := hp
  have hp1 : s1.heap.get? a = some _ := N1.kp _ _ (notab_of ga) List.not_mem_nil hp0
  have F1 := F.step N1
  refine Calls.getMethod_list_append hp1 rfl rfl ?_
  refine PyProof.Rows.callWith_method1 (spliced_more ?_ hse) hse
  refine he O B s₀ s1 _ _ (F1.unhide hx ⟨a, its, rfl, ga, hB, ⟨n, hp1⟩, AllR.ofInts hi⟩) fun v s2 N2 ⟨t, e2⟩ => spliced_none ?_
  subst e2
  have hp2 : s2.heap.get? a = some _ := N2.kp _ _ (notab_of ga) List.not_mem_nil hp1
  have F2 := F1.step N2
  have hl := hi.length
  rw [Array.length_toList] at hl
  refine wpAny_list_append_plain (hsz := Nat.le_trans (show its.size ≤ 100000 by omega) (by decide)) ⟨n, hp2⟩ fun h6 hD6 hs6 => ?_
  have N6 : Nx b [a] s2 { s2 with heap := h6, toks := s2.toks } := Nx.same F2.st hs6 ga (F2.bf _ fa) (NC.seq hp2 rfl)
  refine h _ _ (F2.stepX N6 fun c hc => ?_) hD6 ?_ ⟨[a], (N1.tr N2).lt0 N6, fun c hc => List.mem_singleton.mp hc⟩
  · rw [List.mem_singleton.mp hc]
    exact ⟨not_wr_seq hp2 rfl, fa, .inl (.head _)⟩
  · rw [Array.toList_push]
    exact ksk_snoc hi

theorem EVF.lc {elt iter : Expr} {x : Str} {px : Pos} {ifs : List Expr} {scope : Scope} {pos : Pos} {Ps : List VP} (R : Nat → Option VP) (G' : List (Str × VP)) (O' : List Str)
    (W : WW w b mg mb bm ob) (hA : A.handled = none) (hi : IE w b A env G iter Ps)
    (hk : scope.kind = .function) (nd : (scope.names.map (·.1)).Nodup) (hc : Caps scope env G G') (hcl : ∀ n ∈ scope.names, n.2 = .free → (env.cells.lookup n.1).isSome = true)
    (hO : ∀ C : Addr, ∀ y ∈ O', ((cellsFrom (C + 1) scope.names []).lookup y).isSome = true)
    (hx : (relabel scope env).names.lookup x = some .local ∨ ((relabel scope env).names.lookup x = some .cell ∧ x ∈ O')) (hGx : G'.lookup x = none) (hsz : Ps.length ≤ 100000)
    (hnames : ∀ x ∈ scope.names, x.2 = .local → scope.names.lookup x.1 = some .local)
    (turn : ∀ (C : Addr) i P, Ps[i]? = some P → (ifs = [] ∧ ∃ Rp, R i = some Rp ∧ EV w b A (inner scope C env) ((x, P) :: G') elt Rp) ∨
      (∃ c pass, ifs = [c] ∧ TV w b A (inner scope C env) ((x, P) :: G') c pass ∧ (pass = false → R i = none) ∧ (pass = true → ∃ Rp, R i = some Rp ∧ EV w b A (inner scope C env) ((x, P) :: G') elt Rp)))
    (hs : ∀ x, foldedSetIterable iter env x = pure x := by intro _; rfl) :
    EVF w b A env G (.ListComp elt [⟨.Name x px, iter, ifs, 0⟩] scope pos) (lstV (outs R Ps.length)) := fun O B s₀ s Q E F hq => by
  rw [eval_ListComp]
  refine wpAny_comprehension_free (use := none) rfl hs (closureFor_eq hcl) hk hnames (hi O B s₀ s _ _ F fun I J s1 N1 it j0 hI => ?_)
  refine comp1_core (RR := fun acc C => compPost (model PW w) A E none Q acc C) W hA (F.step N1) F.st N1 it j0 hI hk nd hc hO hx hGx hsz turn ?_
  intro D C s' m N hp hn fC gC fD
  refine ⟨m, hn, fun h' hs' => ?_⟩
  have hC : b.get? C = none := F.st.fresh fC
  have N' : Nx b [C] s' { s' with heap := h', toks := s'.toks } := Nx.same N.st hs' gC hC (NC.ns hn)
  exact hq D _ (N.trans N' (fun _ h => nomatch h) (fun c hc => .inr (by rw [List.mem_singleton.mp hc]; exact fC))) ((lstV _).st (Mv.of1 N' (ns_noseq hn)) hp) fD

/-- x = a new list of ints, hidden at once -/
theorem st_new {x : Str} {px pos : Pos} {e : Expr} {rest : List Stmt} {ns : List Int} {Q : Flow → Shared → Prop} (F : Fm b O B env s₀ G s) (he : EVF w b A env G e (intsV ns)) (hl : env.kindOf x = some .local ∨ (env.kindOf x = some .cell ∧ x ∈ O))
    (h : ∀ a s' its, a ∉ B → 232 < a → s₀.heap.objs.size ≤ a → a < s'.heap.objs.size → ¬ Mine' env a → s'.heap.PlainList a its → IntsAre its.toList ns → Fm b O (a :: B) env s₀ ((x, isV (.ref a)) :: G) s' → wpAny (model PW w) A (execs rest env) Q E s')
    (hs : swapsWith e (some (.Name x px)) pos.line env = pure false := by rfl) : wpAny (model PW w) A (execs (.Assign [.Name x px] e pos :: rest) env) Q E s :=
  wpAny_execs_cons (wpAny_Assign_Name (he O B s₀ s _ _ F fun a s1 N1 p1 ha => by
    obtain ⟨a', its, e1, g, hB, ⟨n, hp⟩, r⟩ := p1
    cases e1
    have hlt := Heap.lt_size hp
    have nm : ¬ Mine' env a := fun q => by
      rcases q with q | ⟨y, hy⟩
      · obtain ⟨m, hn, _⟩ := F.vars
        exact absurd hn.lt (Nat.not_lt.mpr (q ▸ ha))
      · exact absurd (F.lc y a hy).1 (Nat.not_lt.mpr ha)
    refine (F.hide N1 ha hlt).setM (P := isV (.ref a)) rfl hl fun c s2 N2 wr hm F2 => ?_
    have hca : a ≠ c := fun q => wr.noseq _ (q ▸ hp) _ _ rfl
    have hp2 := N2.kp _ _ (notab_of g) (fun q => hca (List.mem_singleton.mp q)) hp
    exact h a s2 its hB g (Nat.le_trans F.nx.sz ha) (Heap.lt_size hp2) nm ⟨n, hp2⟩ r.ints F2) hs)
noncomputable def clOk (names : List (Str × NameKind)) (cells : List (Str × Addr)) : Bool := names.all fun n => n.2 != .free || (cells.lookup n.1).isSome
theorem clOk_of {names : List (Str × NameKind)} {cells : List (Str × Addr)} (h : clOk names cells = true) : ∀ n ∈ names, n.2 = .free → (cells.lookup n.1).isSome = true := fun n hn hf => by
  have := List.all_eq_true.mp h n hn
  simpa [hf] using this
noncomputable def nmOk (names : List (Str × NameKind)) : Bool := (names.all fun n => n.2 != .local || names.lookup n.1 == some .local) && decide ((names.map (·.1)).Nodup)
theorem nmOk_nd {names : List (Str × NameKind)} (h : nmOk names = true) : (names.map (·.1)).Nodup := by
  have := (Bool.and_eq_true_iff.mp h).2
  simpa using this
theorem nmOk_of {names : List (Str × NameKind)} (h : nmOk names = true) : ∀ n ∈ names, n.2 = .local → names.lookup n.1 = some .local := fun n hn hf => by
  have := List.all_eq_true.mp (Bool.and_eq_true_iff.mp h).1 n hn
  simpa [hf] using this
theorem oOk_of {O : List Str} {names : List (Str × NameKind)} (h : ∀ C : Addr, (O.all fun y => ((cellsFrom (C + 1) names []).lookup y).isSome) = true) : ∀ C : Addr, ∀ y ∈ O, ((cellsFrom (C + 1) names []).lookup y).isSome = true := fun C y hy => List.all_eq_true.mp (h C) y hy

/-- a comprehension of one source, its plain premises by computation -/
theorem EV.lc {elt iter : Expr} {x : Str} {px : Pos} {ifs : List Expr} {scope : Scope} {pos : Pos} {Ps : List VP} (R : Nat → Option VP) (G' : List (Str × VP)) (O' : List Str)
    (W : WW w b mg mb bm ob) (hA : A.handled = none) (hi : IE w b A env G iter Ps) (hsz : Ps.length ≤ 100000)
    (turn : ∀ (C : Addr) i P, Ps[i]? = some P → (ifs = [] ∧ ∃ Rp, R i = some Rp ∧ EV w b A (inner scope C env) ((x, P) :: G') elt Rp) ∨
      (∃ c pass, ifs = [c] ∧ TV w b A (inner scope C env) ((x, P) :: G') c pass ∧ (pass = false → R i = none) ∧ (pass = true → ∃ Rp, R i = some Rp ∧ EV w b A (inner scope C env) ((x, P) :: G') elt Rp)))
    (hc : Caps scope env G G') (hk : scope.kind = .function := by rfl) (hn : nmOk scope.names = true := by decide) (hcl : clOk scope.names env.cells = true := by rfl)
    (hO : ∀ C : Addr, (O'.all fun y => ((cellsFrom (C + 1) scope.names []).lookup y).isSome) = true := by intro _; rfl)
    (hx : (relabel scope env).names.lookup x = some .local ∨ ((relabel scope env).names.lookup x = some .cell ∧ x ∈ O') := by first | exact .inl rfl | exact .inr ⟨rfl, by simp⟩) (hGx : G'.lookup x = none := by rfl)
    (hs : ∀ x, foldedSetIterable iter env x = pure x := by intro _; rfl) :
    EV w b A env G (.ListComp elt [⟨.Name x px, iter, ifs, 0⟩] scope pos) (lstV (outs R Ps.length)) :=
  EV.comp1 R G' O' W hA hi hk (nmOk_nd hn) hc (clOk_of hcl) (oOk_of hO) hx hGx hsz (nmOk_of hn) turn hs

/-- a comprehension of one source, its plain premises by computation -/
theorem EVF.lcf {elt iter : Expr} {x : Str} {px : Pos} {ifs : List Expr} {scope : Scope} {pos : Pos} {Ps : List VP} (R : Nat → Option VP) (G' : List (Str × VP)) (O' : List Str)
    (W : WW w b mg mb bm ob) (hA : A.handled = none) (hi : IE w b A env G iter Ps) (hsz : Ps.length ≤ 100000)
    (turn : ∀ (C : Addr) i P, Ps[i]? = some P → (ifs = [] ∧ ∃ Rp, R i = some Rp ∧ EV w b A (inner scope C env) ((x, P) :: G') elt Rp) ∨
      (∃ c pass, ifs = [c] ∧ TV w b A (inner scope C env) ((x, P) :: G') c pass ∧ (pass = false → R i = none) ∧ (pass = true → ∃ Rp, R i = some Rp ∧ EV w b A (inner scope C env) ((x, P) :: G') elt Rp)))
    (hc : Caps scope env G G') (hk : scope.kind = .function := by rfl) (hn : nmOk scope.names = true := by decide) (hcl : clOk scope.names env.cells = true := by rfl)
    (hO : ∀ C : Addr, (O'.all fun y => ((cellsFrom (C + 1) scope.names []).lookup y).isSome) = true := by intro _; rfl)
    (hx : (relabel scope env).names.lookup x = some .local ∨ ((relabel scope env).names.lookup x = some .cell ∧ x ∈ O') := by first | exact .inl rfl | exact .inr ⟨rfl, by simp⟩) (hGx : G'.lookup x = none := by rfl)
    (hs : ∀ x, foldedSetIterable iter env x = pure x := by intro _; rfl) :
    EVF w b A env G (.ListComp elt [⟨.Name x px, iter, ifs, 0⟩] scope pos) (lstV (outs R Ps.length)) :=
  EVF.lc R G' O' W hA hi hk (nmOk_nd hn) hc (clOk_of hcl) (oOk_of hO) hx hGx hsz (nmOk_of hn) turn hs

theorem intsAre_mk : ∀ ns : List Int, IntsAre (ns.map fun n => Value.int n 0) ns
  | [] => .nil
  | n :: ns => .cons n 0 (intsAre_mk ns)
theorem pick_len (ns : List Int) (lo hi st : Option Int) : (pickNums ns lo hi st).length ≤ ns.length := length_pickNums_le (intsAre_mk ns) lo hi st
theorem map_get {α β : Type} {l : List α} {f : α → β} {i : Nat} {P : β} (h : (l.map f)[i]? = some P) : ∃ x, l[i]? = some x ∧ f x = P := by
  rw [List.getElem?_map] at h
  exact Option.map_eq_some_iff.mp h

theorem rng_get {lo hi : Int} {i : Nat} {P : VP} (h : (rng lo hi)[i]? = some P) : P = intV (lo + i) ∧ i < (hi - lo).toNat := by
  obtain ⟨x, hx, rfl⟩ := map_get h
  obtain ⟨hlt, e⟩ := List.getElem?_eq_some_iff.mp hx
  rw [List.length_range] at hlt
  have : x = i := by simpa using e.symm
  exact ⟨by rw [this], hlt⟩

end
end Mine
end -- V11
section -- V10
/-! _law_draw -/
set_option maxRecDepth 100000
namespace Mine
open PySem PySem.W PySem.Calls PyProof.Rows Builtin
set_option maxHeartbeats 800000

section
variable {w : World} {A : Around} {E : Value → Shared → Prop} {s s₀ : Shared} {b : Heap} {mg mb : Str → Option Value} {bm : Addr} {ob : Obj} {env : Env} {G : List (Str × VP)} {B : List Addr} {O : List Str}

theorem EV.slice3 {e1 e2 e3 : Expr} {p pos : Pos} {ns : List Int} {k st : Int} (W : WW w b mg mb bm ob) (h1 : EV w b A env G e1 (intsV ns)) (h2 : EV w b A env G e2 (intV k)) (h3 : EV w b A env G e3 (intV st)) (h0 : st ≠ 0) (hsz : ns.length ≤ 100000)
    (hs : ∀ (l a : Addr), subscripted (.Slice (some e2) none (some e3) p) false (.ref l) (.ref a) = operate [.ref l, .ref a] (getItem (.ref l) (.ref a)) := by intro _ _; with_unfolding_all rfl)
    (ht : ∀ l r, letTemporaryGo e1 (.ref l) r = pure () := by intro _ _; with_unfolding_all rfl) :
    EV w b A env G (.Subscript e1 (.Slice (some e2) none (some e3) p) pos) (intsV (pickNums ns (some k) none (some st))) := fun O B s₀ s Q E F hq =>
  Subscript_ (h1 O B s₀ s _ _ F fun v s1 N1 p1 => by
    refine wpAny_Slice ?_
    rw [evalPart_none, evalPart_some, evalPart_some]
    refine h2 O B s₀ s1 _ _ (F.step N1) fun v2 s2 N2 ⟨u, e2⟩ => ?_
    subst e2
    refine wpAny_pure (h3 O B s₀ s2 _ _ (F.step (N1.tr N2)) fun v3 s3 N3 ⟨u3, e3⟩ => ?_)
    subst e3
    have N4 := Nx.push N3.st (o := { cls := .type "slice", data := .fields #[.int k u, .none, .int st u3] })
    obtain ⟨a, its, e, g, hB, ⟨n, hp⟩, r⟩ := (intsV ns).st (Mv.of0 ((N2.tr N3).tr N4)) p1
    subst e
    have hi := r.ints
    have hsz' : its.size = ns.length := by have := hi.length; rwa [Array.length_toList] at this
    have hl : Heap.IsList _ a its := ⟨_, hp, rfl, n, rfl⟩
    refine PyProof.Rows.subscriptTail_ops hl.typeIs list_getitem_lookup (wpAny_getItem_list_slice hl (Heap.IsSliceOf.new ..) (.int k u) .none (.int st u3) (by simp [h0]) ?_ (by rw [hsz']; exact Nat.le_trans hsz (by decide))) (hs _ _) (ht _)
    have N5 := Nx.push N4.st (o := { cls := .type "list", data := .seq (slicePick its (some k) none (some st)) })
    refine hq _ _ ((((N1.tr N2).tr N3).tr N4).tr N5) ⟨_, _, rfl, N4.st.lt W, fun q => Nat.lt_irrefl _ ((F.step (((N1.tr N2).tr N3).tr N4)).lB _ q), ⟨0, Heap.get?_push_size _ rfl⟩, AllR.ofInts ?_⟩
    have := hi.pick (some k) none (some st)
    rwa [Array.toArray_toList] at this)

noncomputable def drawNums (ns : List Int) : List Int := (pickNums ns none (some 40) none).map fun x => x.fmod (10 ^ (9 : Int).toNat)
noncomputable def drawSize (ns : List Int) (k : Int) : Int := 1 + (3 * k + (pickNums (drawNums ns) (some k) none (some 3)).sum).fmod 6

theorem law_draw {ns : List Int} (W : WW w b mg mb bm ob) (hA : A.handled = none) (hD : A.depth < 800) (hn : ns.length ≤ 63) :
    CS w b A (.ref 227) [scrV ns] (tupV [strsV [mulS (Str.ofString "a") (drawSize ns 0), mulS (Str.ofString "b") (drawSize ns 1), mulS (Str.ofString "c") (drawSize ns 2), mulS (Str.ofString "d") (drawSize ns 2)],
      intV (6 + (drawNums ns).sum.fmod 7), intV (((drawNums ns).sum.fdiv 7).fmod 9)]) := by
  refine CS.def (f := 227) (ns := [Str.ofString "script"]) [Str.ofString "numbers", Str.ofString "sizes"] W (Nat.lt_trans hD (by decide)) rfl rfl (by kernel_rfl) rfl rfl rfl rfl (by decide)
    (fun vs h => by obtain ⟨a, rfl⟩ := len1 h; rfl) (fun L x hx => by rw [List.mem_singleton.mp hx]; exact .inl rfl) (fun L x hx => by rcases List.mem_cons.mp hx with rfl | hx; rfl; rw [List.mem_singleton.mp hx]; rfl) fun L A₁ hA₁ hD₁ hU₁ => ?_
  have hA₁' := hA₁.trans hA
  refine XV.assign (P' := intsV (drawNums ns)) ?_ ?_ (.inr ⟨rfl, by simp⟩)
  · have e : (lstV (outs (fun i => ((pickNums ns none (some 40) none)[i]?).map fun x => intV (x.fmod (10 ^ (9 : Int).toNat))) ((pickNums ns none (some 40) none).map intV).length)) = intsV (drawNums ns) := by
      rw [List.length_map, outs_get]; unfold intsV drawNums; rw [List.map_map]; rfl
    rw [← e]
    refine EV.lc _ [] [] W hA₁' (IE.of hA₁' (IE.scr40 hA₁' W .name .int (by omega)) ITV.list) (by rw [List.length_map]; exact Nat.le_trans (pick_len _ _ _ _) (by omega)) (fun C i P hP => .inl ⟨rfl, ?_⟩) trivial
    obtain ⟨x, hx, rfl⟩ := map_get hP
    rw [hx]
    exact ⟨_, rfl, .mod .name (.pow .int .int (by decide) (by decide)) (by decide)⟩
  have hdl : (drawNums ns).length ≤ 63 := by unfold drawNums; rw [List.length_map]; exact Nat.le_trans (pick_len _ _ _ _) hn
  refine XV.assign (P' := intV (drawNums ns).sum) (EV.callB W (.cons .name .nil) (CS.sum hA₁')) ?_ (.inl rfl)
  intro B s₀ s Q E F hq
  refine st_new (ns := [drawSize ns 0, drawSize ns 1, drawSize ns 2]) F ?_ (.inr ⟨rfl, by simp⟩) fun a s1 its hB ga fa la nm hp hi F1 => ?_
  · have e : (lstV (outs (fun i => some (intV (drawSize ns i))) (rng 0 3).length)) = intsV [drawSize ns 0, drawSize ns 1, drawSize ns 2] := rfl
    rw [← e]
    refine EVF.lcf _ [(Str.ofString "numbers", intsV (drawNums ns))] [] W hA₁' (IE.range1 W .int (by decide) (by decide)) (by decide) (fun C i P hP => .inl ⟨rfl, _, rfl, ?_⟩) ⟨⟨⟨rfl, rfl⟩, .inl rfl⟩, trivial⟩
    obtain ⟨rfl, hi⟩ := rng_get hP
    have e0 : (0 : Int) + (i : Int) = (i : Int) := Int.zero_add _
    rw [e0]
    have hi3 : i < 3 := hi
    refine .add .int (.mod (.add (.mul .int .name ?_) (EV.callB W (.cons (EV.slice3 W .name .name .int (by decide) (by omega)) .nil) (CS.sum hA₁'))) .int (by decide))
    match i, hi3 with
    | 0, _ => mul_fits
    | 1, _ => mul_fits
    | 2, _ => mul_fits
  -- sizes.append(sizes[2])
  refine wpAny_execs_cons (st_append F1 rfl hp ga fa hB hi (by simp) (.item .name .int (by decide) (by decide) rfl) fun s2 its' F2 hp2 hi2 _ => ?_)
  obtain ⟨n2, hp2'⟩ := hp2
  have F3 := F2.unhide (x := Str.ofString "sizes") (P := intsV [drawSize ns 0, drawSize ns 1, drawSize ns 2, drawSize ns 2]) rfl ⟨a, its', rfl, ga, hB, ⟨n2, hp2'⟩, AllR.ofInts hi2⟩
  have hs : ∀ k, 1 ≤ drawSize ns k ∧ drawSize ns k ≤ 6 := fun k => by
    unfold drawSize
    have h1 := Int.fmod_nonneg_of_pos (3 * k + (pickNums (drawNums ns) (some k) none (some 3)).sum) (show (0 : Int) < 6 by decide)
    have h2 := Int.fmod_lt_of_pos (3 * k + (pickNums (drawNums ns) (some k) none (some 3)).sum) (show (0 : Int) < 6 by decide)
    omega
  refine XV.ret (O := [Str.ofString "numbers", Str.ofString "sizes"]) (EV.tuple W (.cons ?_ (.cons (.add .int (.mod .name .int (by decide))) (.cons (.mod (.fdiv .name .int (by decide) (by rfl)) .int (by decide)) .nil))) (by simp)) B s₀ s2 Q E F3 hq
  have e : (lstV (outs (fun i => some (strV (mulS ⟨#[97 + i]⟩ ([drawSize ns 0, drawSize ns 1, drawSize ns 2, drawSize ns 2].getD i 0)))) (rng 0 4).length)) = strsV [mulS (Str.ofString "a") (drawSize ns 0), mulS (Str.ofString "b") (drawSize ns 1), mulS (Str.ofString "c") (drawSize ns 2), mulS (Str.ofString "d") (drawSize ns 2)] := rfl
  rw [← e]
  refine EV.lc _ [(Str.ofString "sizes", intsV [drawSize ns 0, drawSize ns 1, drawSize ns 2, drawSize ns 2])] [] W hA₁' (IE.range1 W .int (by decide) (by decide)) (by decide) (fun C i P hP => .inl ⟨rfl, _, rfl, ?_⟩) ⟨⟨⟨rfl, rfl⟩, .inl rfl⟩, trivial⟩
  obtain ⟨rfl, hi⟩ := rng_get hP
  have hi4 : i < 4 := hi
  match i, hi4 with
  | 0, _ => exact .muls (.itemS .str .name (by decide) (by decide)) (.item .name .name (by decide) (by decide) rfl) (hs _).1 (Int.le_trans (hs _).2 (by decide)) rfl
  | 1, _ => exact .muls (.itemS .str .name (by decide) (by decide)) (.item .name .name (by decide) (by decide) rfl) (hs _).1 (Int.le_trans (hs _).2 (by decide)) rfl
  | 2, _ => exact .muls (.itemS .str .name (by decide) (by decide)) (.item .name .name (by decide) (by decide) rfl) (hs _).1 (Int.le_trans (hs _).2 (by decide)) rfl
  | 3, _ => exact .muls (.itemS .str .name (by decide) (by decide)) (.item .name .name (by decide) (by decide) rfl) (hs _).1 (Int.le_trans (hs _).2 (by decide)) rfl
end
end Mine
end -- V10
section -- V12
/-! rows that fit: the def 222 -/
set_option maxRecDepth 100000
namespace Mine
open PySem PySem.W PySem.Calls PyProof.Rows Builtin
set_option maxHeartbeats 1000000

section
variable {w : World} {A : Around} {E : Value → Shared → Prop} {s s₀ : Shared} {b : Heap} {mg mb : Str → Option Value} {bm : Addr} {ob : Obj} {env : Env} {G : List (Str × VP)} {B : List Addr} {O : List Str}

theorem TV.nes {e1 e2 : Expr} {pos : Pos} {i j : Str} (h1 : EV w b A env G e1 (strV i)) (h2 : EV w b A env G e2 (strV j)) (hm : behindInMarks .NotEq e2 = false := by with_unfolding_all rfl) : TV w b A env G (.Compare e1 [.NotEq] [e2] pos) (i != j) :=
  .cmp h1 h2 (fun B v1 v2 s Q E st lB ⟨t, e⟩ ⟨u, e'⟩ hq => by subst e e'; exact PyProof.Rows.ne_str (hq _ _ (Nx.refl st) rfl)) hm

noncomputable def aheadOf (room : Int) (k : Nat) : Int := if ((k : Int) == 0) = true then room else 0
/-- a row that the law refuses -/
noncomputable def badRow (width room : Int) (k : Nat) (r : Str) : Bool :=
  decide (width < aheadOf room k + r.length) && ((decide (1 < Txt.count r (Str.ofString " ")) || ((decide (0 < aheadOf room k) && ((r != Str.ofString "") && true)) || false)) && true)

theorem law_fits {rows : List Str} {width room : Int} (W : WW w b mg mb bm ob) (hA : A.handled = none) (hD : A.depth < 800) (hn : rows.length ≤ 1000) (hl : ∀ r ∈ rows, r.length ≤ 1000000)
    (h : ∀ k r, rows[k]? = some r → badRow width room k r = false) : CS w b A (.ref 222) [strsV rows, intV width, intV room] (boolV true) := by
  refine CS.def (f := 222) (ns := [Str.ofString "rows", Str.ofString "width", Str.ofString "room"]) [] W (Nat.lt_trans hD (by decide)) rfl rfl (by kernel_rfl) rfl rfl rfl rfl (by decide)
    (fun vs h => by obtain ⟨a, b, c, rfl⟩ := len3 h; rfl) (fun L x hx => by simp only [List.mem_cons, List.not_mem_nil, or_false] at hx; rcases hx with rfl | rfl | rfl <;> exact .inl rfl) (fun L x hx => nomatch hx) fun L A₁ hA₁ hD₁ hU₁ => ?_
  have hA₁' := hA₁.trans hA
  have hlen : (rows.map strV).length = rows.length := List.length_map ..
  intro B s₀ s Q E F hq
  have hL : L < s.heap.objs.size := by
    obtain ⟨m, hn', _⟩ := F.vars
    exact hn'.lt
  refine wpAny_execs_cons (gen_post fun Q1 E1 hQ1 => st_for (K := fun _ _ => True) hA₁' F (IE.range1 W (EV.callB W (.cons (.name (P := strsV rows)) .nil) (CS.lenL (by rw [hlen]; omega))) (by omega) (by rw [hlen]; omega)) (.inl rfl) rfl (fun _ _ _ _ _ _ _ => trivial) (fun _ _ => trivial) (fun i P hP s1 E' F1 _ hs1 => ?_) (fun s' F' _ => ?_))
  · obtain ⟨rfl, hi⟩ := rng_get hP
    have hi' : i < rows.length := by
      have := hi
      unfold rng at this
      simp only [hlen, Int.sub_zero, Int.toNat_natCast] at this
      exact this
    have e0 : (0 : Int) + (i : Int) = (i : Int) := Int.zero_add _
    rw [e0] at F1
    have hr : rows[i]? = some rows[i] := List.getElem?_eq_getElem hi'
    have hPr : (rows.map strV)[((i : Int)).toNat]? = some (strV rows[i]) := by rw [List.getElem?_map, Int.toNat_natCast, hr]; rfl
    have hlr := hl _ (List.getElem_mem hi')
    refine st_assign (P := intV (aheadOf room i)) F1 (EV.ite (P1 := noneV) (P2 := noneV) (TV.eq .name .int) (fun hc => ?_) (fun hc => ?_)) (.inl rfl) fun a s2 N2 hm F2 => ?_
    · unfold aheadOf; rw [if_pos hc]; exact .name
    · unfold aheadOf; rw [if_neg (by rw [hc]; decide)]; exact .int
    obtain ⟨m, hn1, _⟩ := F1.vars
    have ha : a = L := by
      rcases hm with hm | ⟨y, hy⟩
      · exact hm
      · exact nomatch hy
    subst ha
    refine wpAny_execs_cons (wpAny_If (TV.and (c := decide (width < aheadOf room i + rows[i].length)) (.gt (.add .name (EV.callB W (.cons (.item .name .name (by omega) (by omega) hPr) .nil) (CS.lenS hlr))) .name) (fun _ =>
      .and (.or (.gt (EV.count (.item .name .name (by omega) (by omega) hPr) .str) .int) fun _ => .or (.and (.gt .name .int) fun _ => .and (.nes (.item .name .name (by omega) (by omega) hPr) .str) fun _ => .andNil) fun _ => .orNil) fun _ => .andNil) [] B s₀ s2 _ _ F2 fun s3 N3 => ?_))
    have hb := h i _ hr
    unfold badRow at hb
    rw [hb]
    refine wpAny_execs_nil (wpAny_execs_nil ⟨rfl, (F2.step N3).sub (fun x P e => ?_), trivial, [a], N2.rt0 N3, fun c hc => ?_⟩)
    · have hx1 : x ≠ Str.ofString "ahead" := fun q => by subst q; exact nomatch e
      have hx2 : x ≠ Str.ofString "k" := fun q => by subst q; exact nomatch e
      rw [List.lookup_cons, beq_eq_false_iff_ne.mpr hx1, List.lookup_cons, beq_eq_false_iff_ne.mpr hx2]
      exact e
    · rw [List.mem_singleton.mp hc]
      exact ⟨.inr (ns_noseq hn1), .inl hL⟩
  · refine hQ1 _ _ ?_
    exact XV.ret (O := []) (P := boolV true) .bool B s₀ s' Q E F' hq
end
end Mine
end -- V12
section -- V13
/-! the best packing: the def 208 -/
set_option maxRecDepth 100000
namespace Mine
open PySem PySem.W PySem.Calls PyProof.Rows Builtin
set_option maxHeartbeats 1000000

theorem outs_fm {α : Type} (v : α → VP) (f : Nat → Option α) (n : Nat) : outs (fun i => (f i).map v) n = ((List.range n).filterMap f).map v := by
  unfold outs; rw [List.map_filterMap]

noncomputable def bitOf (m k : Nat) : Bool := bitAnd ((m : Int).fdiv (2 ^ (k : Int).toNat)) 1 != 0
noncomputable def loadIt (sizes : List Int) (m k : Nat) : Option Int := if bitOf m k = true then some (sizes.getD k 0) else none
noncomputable def loadOf (sizes : List Int) (m : Nat) : Int := ((List.range 4).filterMap (loadIt sizes m)).sum
noncomputable def loadsOf (sizes : List Int) : List Int := (List.range 16).map (loadOf sizes)

noncomputable def partIt (m j : Nat) : Option Int := if (bitAnd (1 + (j : Int)) (m : Int) == 1 + (j : Int)) = true then some (1 + (j : Int)) else none
noncomputable def partsOf (m : Nat) : List Int := (List.range m).filterMap (partIt m)
noncomputable def isBit (q : Int) : Bool := ([1, 2, 4, 8] : List Int).any (· == q)
noncomputable def passes (loads : List Int) (width q : Int) : Bool := decide (loads.getD q.toNat 0 ≤ width) || (isBit q || false)
noncomputable def candIt (loads : List Int) (width : Int) (bl : List Int) (m j : Nat) : Option Int := (partsOf m)[j]?.bind fun q => if passes loads width q = true then some (1 + bl.getD (bitXor (m : Int) q).toNat 0) else none
noncomputable def cands (loads : List Int) (width : Int) (bl : List Int) (m : Nat) : List Int := (List.range (partsOf m).length).filterMap (candIt loads width bl m)
noncomputable def minOf : List Int → Int
  | [] => 0
  | [x] => x
  | x :: y :: l => min x (minOf (y :: l))
theorem minOf_spec : ∀ l : List Int, l ≠ [] → minOf l ∈ l ∧ ∀ a ∈ l, minOf l ≤ a
  | [], h => absurd rfl h
  | [x], _ => ⟨by simp [minOf], by simp [minOf]⟩
  | x :: y :: l, _ => by
    obtain ⟨h1, h2⟩ := minOf_spec (y :: l) (by simp)
    show min x (minOf (y :: l)) ∈ _ ∧ ∀ a ∈ _, min x (minOf (y :: l)) ≤ a
    refine ⟨?_, fun a ha => ?_⟩
    · by_cases h : x ≤ minOf (y :: l)
      · rw [Int.min_eq_left h]; exact .head _
      · rw [Int.min_eq_right (by omega)]; exact .tail _ h1
    · rcases List.mem_cons.mp ha with rfl | ha
      · exact Int.min_le_left _ _
      · exact Int.le_trans (Int.min_le_right _ _) (h2 a ha)
/-- best after n turns -/
noncomputable def bests (loads : List Int) (width : Int) : Nat → List Int
  | 0 => [0]
  | n + 1 => bests loads width n ++ [minOf (cands loads width (bests loads width n) (n + 1))]
theorem bests_len (loads : List Int) (width : Int) : ∀ n, (bests loads width n).length = n + 1
  | 0 => rfl
  | n + 1 => by unfold bests; rw [List.length_append, bests_len loads width n]; rfl
theorem part_mem : ∀ m < 16, 1 ≤ m → ∃ j, j < (partsOf m).length ∧ ∃ q, (partsOf m)[j]? = some q ∧ isBit q = true := by
  have : ∀ m < 16, 1 ≤ m → ((List.range (partsOf m).length).any fun j => ((partsOf m)[j]?).any isBit) = true := by decide +kernel
  intro m hm h1
  obtain ⟨j, hj, h⟩ := List.any_eq_true.mp (this m hm h1)
  cases hq : (partsOf m)[j]? with
  | none => rw [hq] at h; exact nomatch h
  | some q => rw [hq] at h; exact ⟨j, List.mem_range.mp hj, q, hq, h⟩
theorem part_ok : ∀ m < 16, ∀ q ∈ partsOf m, 1 ≤ q ∧ q ≤ 15 ∧ 0 ≤ bitXor (m : Int) q ∧ bitXor (m : Int) q < m := by decide +kernel
theorem cands_ne (loads : List Int) (width : Int) (bl : List Int) {m : Nat} (hm : m < 16) (h1 : 1 ≤ m) : cands loads width bl m ≠ [] := fun e => by
  obtain ⟨j, hj, q, hq, ha⟩ := part_mem m hm h1
  have : (1 + bl.getD (bitXor (m : Int) q).toNat 0) ∈ cands loads width bl m := by
    unfold cands
    refine List.mem_filterMap.mpr ⟨j, List.mem_range.mpr hj, ?_⟩
    unfold candIt passes
    rw [hq]
    simp only [Option.bind_some, ha]; simp
  rw [e] at this
  exact nomatch this

noncomputable def lastOk (loads : List Int) (width room : Int) (p : Nat) : Bool := ((p : Int) == 0) || (decide (room + loads.getD (p : Int).toNat 0 ≤ width) || false)
noncomputable def lastIt (loads : List Int) (width room : Int) (bl : List Int) (p : Nat) : Option Int := if lastOk loads width room p = true then some (bl.getD (bitXor 15 (p : Int)).toNat 0) else none
noncomputable def lasts (loads : List Int) (width room : Int) (bl : List Int) : List Int := (List.range 16).filterMap (lastIt loads width room bl)
theorem lasts_ne (loads : List Int) (width room : Int) (bl : List Int) : lasts loads width room bl ≠ [] := fun e => by
  have : bl.getD (bitXor 15 ((0 : Nat) : Int)).toNat 0 ∈ lasts loads width room bl := List.mem_filterMap.mpr ⟨0, by simp, rfl⟩
  rw [e] at this
  exact nomatch this
theorem xor15 : ∀ p < 16, 0 ≤ bitXor 15 ((p : Nat) : Int) ∧ bitXor 15 ((p : Nat) : Int) < 16 := by decide +kernel
/-- the least number of rows -/
noncomputable def bestOf (sizes : List Int) (width room : Int) : Int :=
  if (room == 0) = true then (bests (loadsOf sizes) width 15).getD 15 0 else 1 + minOf (lasts (loadsOf sizes) width room (bests (loadsOf sizes) width 15))
theorem get_ints {l : List Int} {k : Int} (h : k.toNat < l.length) : (l.map intV)[k.toNat]? = some (intV (l.getD k.toNat 0)) := by
  rw [List.getElem?_map, List.getElem?_eq_getElem h, List.getD_eq_getElem?_getD, List.getElem?_eq_getElem h]; rfl

section
variable {w : World} {A : Around} {E : Value → Shared → Prop} {s s₀ : Shared} {b : Heap} {mg mb : Str → Option Value} {bm : Addr} {ob : Obj} {env : Env} {G : List (Str × VP)} {B : List Addr} {O : List Str}

theorem law_best {sizes : List Int} {width room : Int} (W : WW w b mg mb bm ob) (hA : A.handled = none) (hD : A.depth < 800) (hU : A.units + 3 < cLine) (hn : sizes.length = 4) :
    CS w b A (.ref 208) [intsV sizes, intV width, intV room] (intV (bestOf sizes width room)) := by
  refine CS.def (f := 208) (ns := [Str.ofString "sizes", Str.ofString "width", Str.ofString "room"]) [Str.ofString "sizes", Str.ofString "width", Str.ofString "room", Str.ofString "some", Str.ofString "loads", Str.ofString "best"] W (Nat.lt_trans hD (by decide)) rfl rfl (by kernel_rfl) rfl rfl rfl rfl (by decide)
    (fun vs h => by obtain ⟨a, b, c, rfl⟩ := len3 h; rfl) (fun L x hx => by simp only [List.mem_cons, List.not_mem_nil, or_false] at hx; rcases hx with rfl | rfl | rfl <;> exact .inr ⟨rfl, rfl⟩)
    (fun L x hx => by simp only [List.mem_cons, List.not_mem_nil, or_false] at hx; rcases hx with rfl | rfl | rfl | rfl | rfl | rfl <;> rfl) fun L A₁ hA₁ hD₁ hU₁ => ?_
  have hA₁' := hA₁.trans hA
  have hU' : A₁.units < cLine := hU₁ ▸ hU
  refine XV.assign (P' := intsV (loadsOf sizes)) ?_ ?_ (.inr ⟨rfl, by simp⟩)
  · have e : lstV (outs (fun m => (some (loadOf sizes m)).map intV) (rng 0 16).length) = intsV (loadsOf sizes) := by
      rw [outs_fm]; unfold intsV loadsOf; rw [List.filterMap_eq_map']; rfl
    rw [← e]
    refine EV.lc _ [(Str.ofString "sizes", intsV sizes)] [Str.ofString "some"] W hA₁' (IE.range1 W .int (by decide) (by decide)) (by decide) (fun C i P hP => .inl ⟨rfl, _, rfl, ?_⟩) ⟨⟨⟨rfl, rfl⟩, .inl rfl⟩, trivial⟩
    obtain ⟨rfl, hi⟩ := rng_get hP
    have e0 : (0 : Int) + (i : Int) = (i : Int) := Int.zero_add _
    rw [e0]
    refine EV.callB W (.cons ?_ .nil) (CS.sum (ns := (List.range 4).filterMap (loadIt sizes i)) hA₁')
    have e : lstV (outs (fun k => (loadIt sizes i k).map intV) (rng 0 4).length) = intsV ((List.range 4).filterMap (loadIt sizes i)) := by
      rw [outs_fm]; rfl
    rw [← e]
    refine EV.lc _ [(Str.ofString "sizes", intsV sizes), (Str.ofString "some", intV i)] [] W hA₁' (IE.range1 W .int (by decide) (by decide)) (by decide) (fun C' k P hP => .inr ⟨_, bitOf i k, rfl, ?_, fun h => ?_, fun h => ?_⟩) ⟨⟨⟨rfl, rfl⟩, .inl rfl⟩, ⟨⟨rfl, rfl⟩, .inl rfl⟩, trivial⟩
    all_goals obtain ⟨rfl, hk⟩ := rng_get hP
    all_goals have e1 : (0 : Int) + (k : Int) = (k : Int) := Int.zero_add _
    · rw [e1]
      exact .ofInt (.and (.shr .name .name (by omega)) .int)
    · unfold loadIt; rw [if_neg (by rw [h]; decide)]; rfl
    · rw [e1]
      have hk4 : k < sizes.length := by rw [hn]; exact hk
      refine ⟨_, by unfold loadIt; rw [if_pos h]; rfl, .item .name .name (by omega) (by omega) ?_⟩
      rw [List.getElem?_map, Int.toNat_natCast, List.getElem?_eq_getElem hk4, List.getD_eq_getElem?_getD, List.getElem?_eq_getElem hk4]; rfl
  intro B s₀ s Q E F hq
  refine st_new (ns := [0]) F (EVF.list W (.cons .int .nil) (by simp)) (.inr ⟨rfl, by simp⟩) fun a s1 its hB ga fa la nm hp hi F1 => ?_
  have hL : L < s1.heap.objs.size := by
    obtain ⟨m, hn', _⟩ := F1.vars
    exact hn'.lt
  have haL : a ≠ L := fun q => nm (.inl q)
  refine wpAny_execs_cons (gen_post fun Q1 E1 hQ1 => st_for (K := fun i s => ∃ its, s.heap.PlainList a its ∧ IntsAre its.toList (bests (loadsOf sizes) width i)) hA₁' F1 (IE.range2 W .int .int (by decide) (by decide) (by decide) (by decide)) (.inr ⟨rfl, by simp⟩) rfl (fun i c s2 s3 hK N hc => ?_) (fun s2 N => ?_) (fun i P hP s2 E' F2 hK hs2 => ?_) (fun s' F' hK => ?_))
  · obtain ⟨its, ⟨n, hp⟩, hi⟩ := hK
    refine ⟨its, ⟨n, N.kp _ _ (notab_of ga) (fun q => ?_) hp⟩, hi⟩
    have := List.mem_singleton.mp q
    subst this
    rcases hc with hc | hc
    · exact absurd la (Nat.not_lt.mpr hc)
    · exact nm hc
  · obtain ⟨n, hp⟩ := hp
    exact ⟨its, ⟨n, N.kp _ _ (notab_of ga) List.not_mem_nil hp⟩, hi⟩
  · obtain ⟨rfl, hi15⟩ := rng_get hP
    obtain ⟨its2, hp2, hi2⟩ := hK
    have e1 : (1 : Int) + (i : Int) = ((i + 1 : Nat) : Int) := by omega
    rw [e1] at F2
    have hi15' : i < 15 := hi15
    have nmR : nmOk [(Str.ofString ".0", NameKind.local), (Str.ofString "part", NameKind.local), (Str.ofString "some", NameKind.free)] = true := by decide
    refine st_assign_comp (Ps := rng 1 (((i + 1 : Nat) : Int) + 1)) (fun j => (partIt (i + 1) j).map intV) [(Str.ofString "some", intV ((i + 1 : Nat) : Int))] [] W hA₁' F2 (IE.range2 W .int (.add .name .int) (by decide) (by decide) (by omega) (by omega)) rfl (nmOk_nd nmR) ⟨⟨⟨rfl, rfl⟩, .inl rfl⟩, trivial⟩ (clOk_of rfl) (fun C y hy => nomatch hy) (.inl rfl) rfl (by unfold rng; rw [List.length_map, List.length_range]; omega) (nmOk_of nmR) (fun C j P hP => .inr ⟨_, (bitAnd (1 + (j : Int)) ((i + 1 : Nat) : Int) == 1 + (j : Int)), rfl, ?_, fun h => ?_, fun h => ?_⟩) (fun s3 N3 F3 => ?_)
    · obtain ⟨rfl, hj⟩ := rng_get hP
      exact .eq (.and .name .name) .name
    · unfold partIt; rw [if_neg (by rw [h]; decide)]; rfl
    · obtain ⟨rfl, hj⟩ := rng_get hP
      exact ⟨_, by unfold partIt; rw [if_pos h]; rfl, .name⟩
    have hrl : (rng 1 (((i + 1 : Nat) : Int) + 1)).length = i + 1 := by unfold rng; rw [List.length_map, List.length_range]; omega
    rw [hrl, outs_fm] at F3
    have hp3 : s3.heap.PlainList a its2 := by
      obtain ⟨n, hp⟩ := hp2
      exact ⟨n, N3.kp _ _ (notab_of ga) (fun q => haL (List.mem_singleton.mp q)) hp⟩
    have hbl := bests_len (loadsOf sizes) width i
    have hlo : (loadsOf sizes).length = 16 := by unfold loadsOf; rw [List.length_map, List.length_range]
    obtain ⟨hm, hle⟩ := minOf_spec _ (cands_ne (loadsOf sizes) width (bests (loadsOf sizes) width i) (show i + 1 < 16 by omega) (by omega))
    refine wpAny_execs_cons (st_append F3 rfl hp3 ga fa hB hi2 (by rw [hbl]; omega) (EV.callB W (.cons ?_ .nil) (CS.min hA₁' hm hle)) fun s4 its4 F4 hp4 hi4 hX => ?_)
    · have e : lstV (outs (fun j => (candIt (loadsOf sizes) width (bests (loadsOf sizes) width i) (i + 1) j).map intV) ((partsOf (i + 1)).map intV).length) = intsV (cands (loadsOf sizes) width (bests (loadsOf sizes) width i) (i + 1)) := by
        rw [outs_fm, List.length_map]; rfl
      rw [← e]
      refine EV.lc _ [(Str.ofString "best", intsV (bests (loadsOf sizes) width i)), (Str.ofString "loads", intsV (loadsOf sizes)), (Str.ofString "some", intV ((i + 1 : Nat) : Int)), (Str.ofString "width", intV width)] [] W hA₁' (IE.of hA₁' .name ITV.list) (by rw [List.length_map]; exact Nat.le_trans (List.length_filterMap_le _ _) (by rw [List.length_range]; omega)) (fun C j P hP => ?_) ⟨⟨⟨rfl, rfl⟩, .inl rfl⟩, ⟨⟨rfl, rfl⟩, .inl rfl⟩, ⟨⟨rfl, rfl⟩, .inl rfl⟩, ⟨⟨rfl, rfl⟩, .inl rfl⟩, trivial⟩
      obtain ⟨q, hq, rfl⟩ := map_get hP
      obtain ⟨q1, q15, x0, xm⟩ := part_ok (i + 1) (by omega) q (List.mem_of_getElem? hq)
      refine .inr ⟨_, passes (loadsOf sizes) width q, rfl, ?_, fun h => ?_, fun h => ?_⟩
      · refine .or (.le (.item .name .name (by omega) (by omega) (get_ints (by rw [hlo]; omega))) .name) fun _ => .or (.inInts hU' .name (EV.list W (.cons .int (.cons .int (.cons .int (.cons .int .nil)))) (by simp))) fun _ => .orNil
      · unfold candIt; rw [hq]; simp only [Option.bind_some, h]; rfl
      · refine ⟨_, by unfold candIt; rw [hq]; simp only [Option.bind_some, h]; rfl, .add .int (.item .name (.xor .name .name) x0 (by omega) (get_ints (by rw [hbl]; omega)))⟩
    · refine wpAny_execs_nil ⟨rfl, F4.sub (fun x P e => ?_), ⟨its4, hp4, hi4⟩, ?_⟩
      · have hx1 : x ≠ Str.ofString "parts" := fun q => by subst q; exact nomatch e
        have hx2 : x ≠ Str.ofString "some" := fun q => by subst q; exact nomatch e
        rw [List.lookup_cons, beq_eq_false_iff_ne.mpr hx1, List.lookup_cons, beq_eq_false_iff_ne.mpr hx2]
        exact e
      · obtain ⟨X, N4, hX⟩ := hX
        obtain ⟨m, hn2, _⟩ := F2.vars
        refine ⟨[L, a], N3.trans N4 (fun c hc => .inl (by rw [List.mem_singleton.mp hc]; exact .head _)) (fun c hc => .inl (by rw [hX c hc]; exact .tail _ (.head _))), fun c hc => ?_⟩
        rcases List.mem_cons.mp hc with rfl | hc
        · exact ⟨.inr (ns_noseq hn2), .inl hL⟩
        · rw [List.mem_singleton.mp hc]
          exact ⟨.inl (.head _), .inl la⟩
  · refine hQ1 _ _ ?_
    obtain ⟨its5, hp5, hi5⟩ := hK
    have h15 : (rng 1 16).length = 15 := rfl
    rw [h15] at hi5
    obtain ⟨n5, hp5⟩ := hp5
    have F5 := F'.unhide (x := Str.ofString "best") (P := intsV (bests (loadsOf sizes) width 15)) rfl ⟨a, its5, rfl, ga, hB, ⟨n5, hp5⟩, AllR.ofInts hi5⟩
    have hbl := bests_len (loadsOf sizes) width 15
    have hlo : (loadsOf sizes).length = 16 := by unfold loadsOf; rw [List.length_map, List.length_range]
    refine XV.ifret (O := [Str.ofString "sizes", Str.ofString "width", Str.ofString "room", Str.ofString "some", Str.ofString "loads", Str.ofString "best"]) (P := intV (bestOf sizes width room)) (.eq .name .int) (fun h => ?_) (fun h => ?_) B s₀ s' Q E F5 hq
    · unfold bestOf
      rw [if_pos h]
      exact XV.ret (.item .name .int (by decide) (by decide) (get_ints (k := 15) (by rw [hbl]; decide)))
    · unfold bestOf
      rw [if_neg (by rw [h]; decide)]
      obtain ⟨hm, hle⟩ := minOf_spec _ (lasts_ne (loadsOf sizes) width room (bests (loadsOf sizes) width 15))
      refine XV.ret (.add .int (EV.callB W (.cons ?_ .nil) (CS.min hA₁' hm hle)))
      have e : lstV (outs (fun p => (lastIt (loadsOf sizes) width room (bests (loadsOf sizes) width 15) p).map intV) (rng 0 16).length) = intsV (lasts (loadsOf sizes) width room (bests (loadsOf sizes) width 15)) := by
        rw [outs_fm]; rfl
      rw [← e]
      refine EV.lc _ [(Str.ofString "best", intsV (bests (loadsOf sizes) width 15)), (Str.ofString "loads", intsV (loadsOf sizes)), (Str.ofString "room", intV room), (Str.ofString "width", intV width)] [] W hA₁' (IE.range1 W .int (by decide) (by decide)) (by decide) (fun C p P hP => ?_) ⟨⟨⟨rfl, rfl⟩, .inl rfl⟩, ⟨⟨rfl, rfl⟩, .inl rfl⟩, ⟨⟨rfl, rfl⟩, .inl rfl⟩, ⟨⟨rfl, rfl⟩, .inl rfl⟩, trivial⟩
      obtain ⟨rfl, hp⟩ := rng_get hP
      have hp16 : p < 16 := hp
      have e0 : (0 : Int) + (p : Int) = (p : Int) := Int.zero_add _
      rw [e0]
      obtain ⟨x0, x1⟩ := xor15 p hp16
      refine .inr ⟨_, lastOk (loadsOf sizes) width room p, rfl, ?_, fun h => ?_, fun h => ?_⟩
      · exact .or (.eq .name .int) fun _ => .or (.le (.add .name (.item .name .name (by omega) (by omega) (get_ints (by rw [hlo]; omega)))) .name) fun _ => .orNil
      · unfold lastIt; rw [h]; rfl
      · exact ⟨_, by unfold lastIt; rw [h]; rfl, .item .name (.xor .int .name) x0 (by omega) (get_ints (by rw [hbl]; omega))⟩
end
end Mine
end -- V13
section -- V14
/-! x, y, z = e -/
set_option maxRecDepth 100000
namespace Mine
open PySem PySem.W PySem.Calls PyProof.Rows Builtin
set_option maxHeartbeats 1000000

section
variable {w : World} {A : Around} {E : Value → Shared → Prop} {s s₀ : Shared} {b : Heap} {mg mb : Str → Option Value} {bm : Addr} {ob : Obj} {env : Env} {G : List (Str × VP)} {B : List Addr} {O : List Str}

theorem unpack_nx {t : Addr} {items : Array Value} {targets : List (Bool × (Value → Sem Unit))} {Q : Unit → Shared → Prop} (st : St b s) (hh : A.handled = none) (ht : s.heap.IsTuple t items)
    (hn : targets.length = items.size) (hstar : targets.findIdx? (·.1) = none) (h : ∀ s', Nx b [] s s' → wpAny (model PW w) A (assignInOrder (targets.map (·.2)) items.toList) Q E s') :
    wpAny (model PW w) A (unpack (.ref t) targets) Q E s := by
  unfold unpack
  rw [hn, hstar]
  refine wpAny_bind (wpAny_holding (wpAny_size (Nat.le_refl _) (wpAny_unpackItems_tuple hh ht fun h' hx hs => h _ (Nx.all st (fun a o e => hx a o (Nat.ne_of_lt (Heap.lt_size e)) e) rfl rfl rfl hs))))

theorem st_unpack3 {x y z : Str} {px py pz pt pos : Pos} {kt : Nat} {e : Expr} {rest : List Stmt} {P1 P2 P3 : VP} {Q : Flow → Shared → Prop} (hh : A.handled = none) (F : Fm b O B env s₀ G s) (he : EV w b A env G e (tupV [P1, P2, P3]))
    (hx : env.kindOf x = some .local ∨ (env.kindOf x = some .cell ∧ x ∈ O)) (hy : env.kindOf y = some .local ∨ (env.kindOf y = some .cell ∧ y ∈ O)) (hz : env.kindOf z = some .local ∨ (env.kindOf z = some .cell ∧ z ∈ O))
    (h : ∀ s', Fm b O B env s₀ ((z, P3) :: (y, P2) :: (x, P1) :: G) s' → wpAny (model PW w) A (execs rest env) Q E s')
    (hs : swapsWithSole [.Tuple [.Name x px, .Name y py, .Name z pz] kt pt] e pos.line env = pure false := by rfl) (hw : swappedStores [.Tuple [.Name x px, .Name y py, .Name z pz] kt pt] e env = pure none := by rfl) :
    wpAny (model PW w) A (execs (.Assign [.Tuple [.Name x px, .Name y py, .Name z pz] kt pt] e pos :: rest) env) Q E s := by
  refine wpAny_execs_cons (wpAny_Assign_stores (he O B s₀ s _ _ F fun v s1 N1 p1 => ?_) hs hw)
  obtain ⟨a, its, rfl, g, hB, ht, r⟩ := p1
  have F1 := F.step N1
  show wpAny _ A (assign (.Tuple [.Name x px, .Name y py, .Name z pz] kt pt) env (.ref a)) _ E s1
  rw [arm_assign_Tuple]
  have hl := r.len
  obtain ⟨v1, v2, v3, hits⟩ := len3 hl
  rw [hits] at r
  refine wpAny_bind (wpAny_standAt (unpack_nx F1.st hh ht (by rw [← Array.length_toList, hits]; rfl) rfl fun s2 N2 => ?_))
  have r2 := r.st (Mv.of0 N2)
  rw [hits]
  show wpAny _ A (do holding [v2, v3] (assign (.Name x px) env v1); holding [v3] (assign (.Name y py) env v2); holding [] (assign (.Name z pz) env v3); pure ()) _ E s2
  refine wpAny_bind (wpAny_holding (wpAny_assign_Name ((F1.step N2).set r2.1 hx fun c s3 N3 wr3 F3 => ?_)))
  have r3 := AllR.st (b := b) (s' := s3) (show Mv b B s2 s3 from ⟨[c], N3, fun q hq => .inr (by rw [List.mem_singleton.mp hq]; exact wr3.noseq)⟩) r2.2
  refine wpAny_bind (wpAny_holding (wpAny_assign_Name (F3.set r3.1 hy fun c4 s4 N4 wr4 F4 => ?_)))
  have r4 := AllR.st (b := b) (s' := s4) (show Mv b B s3 s4 from ⟨[c4], N4, fun q hq => .inr (by rw [List.mem_singleton.mp hq]; exact wr4.noseq)⟩) r3.2
  exact wpAny_bind (wpAny_holding (wpAny_assign_Name (F4.set r4.1 hz fun c5 s5 N5 wr5 F5 => wpAny_pure (h s5 F5))))
end
end Mine
end -- V14
section -- V15
/-! x = [.. for .. for ..] to a plain local -/
set_option maxRecDepth 100000
namespace Mine
open PySem PySem.W PySem.Calls PyProof.Rows Builtin
set_option maxHeartbeats 1000000

section
variable {w : World} {A : Around} {E : Value → Shared → Prop} {s s₀ : Shared} {b : Heap} {mg mb : Str → Option Value} {bm : Addr} {ob : Obj} {env : Env} {G : List (Str × VP)} {B : List Addr} {O : List Str}

theorem comp2_core {elt i1 i2 : Expr} {x y : Str} {px py : Pos} {scope : Scope} {pos : Pos} {Ps : List VP} (Ps2 : Nat → List VP) (R2 : Nat → Nat → VP) {G' : List (Str × VP)} {O' : List Str} {I : Addr} {J : List Addr → Nat → Heap → Prop} {s1 : Shared} {RR : Value → Addr → Result → Shared → Prop}
    (W : WW w b mg mb bm ob) (hA : A.handled = none) (F : Fm b O B env s₀ G s) (N1 : Nx b [] s s1) (it : Itr w b I Ps J) (j0 : J B 0 s1.heap) (hI : s.heap.objs.size ≤ I)
    (hk : scope.kind = .function) (nd : (scope.names.map (·.1)).Nodup) (hc : Caps scope env G G') (hO : ∀ C : Addr, ∀ y ∈ O', ((cellsFrom (C + 1) scope.names []).lookup y).isSome = true)
    (hx : (relabel scope env).names.lookup x = some .local ∨ ((relabel scope env).names.lookup x = some .cell ∧ x ∈ O')) (hy : (relabel scope env).names.lookup y = some .local ∨ ((relabel scope env).names.lookup y = some .cell ∧ y ∈ O'))
    (hGx : G'.lookup x = none) (hGy : G'.lookup y = none) (hxy : (y == x) = false) (hsz : ∀ i, i ≤ Ps.length → (flat (fun i => (List.range (Ps2 i).length).map (R2 i)) i).length ≤ 100000)
    (src : ∀ (C : Addr) i P, Ps[i]? = some P → IE w b A (inner scope C env) ((x, P) :: G') i2 (Ps2 i))
    (turn : ∀ (C : Addr) i P, Ps[i]? = some P → ∀ j P2, (Ps2 i)[j]? = some P2 → EV w b A (inner scope C env) ((y, P2) :: (x, P) :: G') elt (R2 i j))
    (hRR : ∀ D C s' m, Nx b [] s s' → (lstV (flat (fun i => (List.range (Ps2 i).length).map (R2 i)) Ps.length)).p B (.ref D) s'.heap → s'.heap.Ns C m → s.heap.objs.size ≤ C → 232 < C → s.heap.objs.size ≤ D → RR (.ref D) C (.ok .next) s')
    (hs2 : ∀ (C : Addr) v, foldedSetIterable i2 (inner scope C env) v = pure v := by intro _ _; rfl) :
    wpAny (model PW w) A (newList []) (fun acc s₃ => wpAny (model PW w) A (newFunctionEnv scope env.globals (clOf scope.names env.cells []) [] env.qual none .none (some env)) (fun cenv s₄ =>
      codeAny (model PW w) A (.compStart (lc2 elt (.Name x px) i1 (.Name y py) i2 scope pos) 0 (.ref I) acc { cenv with scope := relabel scope env }) (RR acc cenv.locals) s₄) E s₃) E s1 := by
  have F1 := F.step N1
  refine wpAny_newObj_type ?_
  have N₂ := Nx.push F1.st (o := { cls := .type "list", data := .seq ([] : List Value).toArray })
  have F₂ := (F1.step N₂)
  have hD : s1.heap.get? s1.heap.objs.size = none := by
    cases e : s1.heap.get? s1.heap.objs.size with
    | none => rfl
    | some o => exact absurd (Heap.lt_size e) (Nat.lt_irrefl _)
  have gD : 232 < s1.heap.objs.size := F1.st.lt W
  have extB : ∀ (P : VP) v, P.p B v s1.heap → P.p (s1.heap.objs.size :: B) v (s1.heap.push { cls := .type "list", data := .seq ([] : List Value).toArray }) := fun P v h => P.st (Mv.of0 N₂) (P.ext hD h)
  have F₂' : Fm b O (s1.heap.objs.size :: B) env s₀ G { s1 with heap := s1.heap.push { cls := .type "list", data := .seq ([] : List Value).toArray } } := by
    obtain ⟨m, hn, hv⟩ := F1.vars
    refine ⟨F₂.nx, F₂.ks, F₂.gl, F₂.bl, F₂.gL, F₂.fL, F₂.bf, fun d hd => ?_, F₂.lc, F₂.own, m, ns_nx hn N₂ F.gL, fun y P e => ?_⟩
    · rcases List.mem_cons.mp hd with rfl | hd
      · show _ < (s1.heap.push _).objs.size; rw [Heap.size_push]; exact Nat.lt_succ_self _
      · exact F₂.lB d hd
    · obtain ⟨v, hp, hh⟩ := hv y P e
      refine ⟨v, extB P v hp, ?_⟩
      rcases hh with hh | ⟨hk, c, hc, g, hcl⟩
      · exact .inl hh
      · exact .inr ⟨hk, c, hc, g, cell_nx hcl N₂ g⟩
  refine nfe ?_
  obtain ⟨F₃, N₃⟩ := inner_start (scope := scope) (G' := G') (O' := O') F₂' W hk nd hc (hO _)
  have F₃' := (F₃.rebase N₂.st (Nx.refl N₂.st)).rebase F.st (N1.tr N₂)
  have N₂₃ := N₂.tr N₃
  have hj₃ : J (s1.heap.objs.size :: B) 0 _ := it.frame (it.ext hD j0) N₂₃ List.not_mem_nil (fun _ h => nomatch h)
  have hDl : (pushCells ((s1.heap.push { cls := .type "list", data := .seq ([] : List Value).toArray }).push { cls := .type "dict", data := .dict #[] }) scope.names).PlainList s1.heap.objs.size #[] := ⟨0, pushCells_keeps _ _ _ _ (Heap.get?_push_of_some _ (Heap.get?_push_size _ rfl))⟩
  have loop : codeAny (model PW w) A (.compLoop (lc2 elt (.Name x px) i1 (.Name y py) i2 scope pos) 0 (.ref I) (.ref s1.heap.objs.size) (inner scope (s1.heap.push { cls := .type "list", data := .seq ([] : List Value).toArray }).objs.size env))
      (RR (.ref s1.heap.objs.size) (s1.heap.push { cls := .type "list", data := .seq ([] : List Value).toArray }).objs.size) { s1 with heap := pushCells ((s1.heap.push { cls := .type "list", data := .seq ([] : List Value).toArray }).push { cls := .type "dict", data := .dict #[] }) scope.names } := by
    refine comp_out (Ps2 := Ps2) (R2 := R2) W hA it F₃' hI N1.sz gD hx hy hGx hGy hxy hj₃ hDl hsz (src _) (turn _) (fun s' ys F' hD' hy' => ?_) (hs2 _)
    obtain ⟨m, hn, _⟩ := F'.vars
    have fC : s.heap.objs.size ≤ (s1.heap.push { cls := .type "list", data := .seq ([] : List Value).toArray }).objs.size := Nat.le_trans N1.sz N₂.sz
    exact hRR _ _ s' m F'.nx ⟨_, ys, rfl, gD, fun q => Nat.lt_irrefl _ (F1.lB _ q), hD', hy'.mp fun P v h => P.wk h⟩ hn fC (N₂.st.lt W) N1.sz
  exact codeAny_compStart2 (by decide) loop (it.self (B := s1.heap.objs.size :: B) hj₃ loop)

/-- z = [.. for x in .. for y in ..]; rest -/
theorem st_assign_comp2 {z : Str} {pz spos : Pos} {rest : List Stmt} {elt i1 i2 : Expr} {x y : Str} {px py : Pos} {scope : Scope} {pos : Pos} {Ps : List VP} {Q : Flow → Shared → Prop} (Ps2 : Nat → List VP) (R2 : Nat → Nat → VP) (G' : List (Str × VP)) (O' : List Str)
    (W : WW w b mg mb bm ob) (hA : A.handled = none) (F : Fm b O B env s₀ G s) (hi : IE w b A env G i1 Ps)
    (hk : scope.kind = .function) (nd : (scope.names.map (·.1)).Nodup) (hc : Caps scope env G G') (hcl : ∀ n ∈ scope.names, n.2 = .free → (env.cells.lookup n.1).isSome = true)
    (hO : ∀ C : Addr, ∀ y ∈ O', ((cellsFrom (C + 1) scope.names []).lookup y).isSome = true)
    (hx : (relabel scope env).names.lookup x = some .local ∨ ((relabel scope env).names.lookup x = some .cell ∧ x ∈ O')) (hy : (relabel scope env).names.lookup y = some .local ∨ ((relabel scope env).names.lookup y = some .cell ∧ y ∈ O'))
    (hGx : G'.lookup x = none) (hGy : G'.lookup y = none) (hxy : (y == x) = false) (hsz : ∀ i, i ≤ Ps.length → (flat (fun i => (List.range (Ps2 i).length).map (R2 i)) i).length ≤ 100000)
    (hnames : ∀ x ∈ scope.names, x.2 = .local → scope.names.lookup x.1 = some .local)
    (src : ∀ (C : Addr) i P, Ps[i]? = some P → IE w b A (inner scope C env) ((x, P) :: G') i2 (Ps2 i))
    (turn : ∀ (C : Addr) i P, Ps[i]? = some P → ∀ j P2, (Ps2 i)[j]? = some P2 → EV w b A (inner scope C env) ((y, P2) :: (x, P) :: G') elt (R2 i j))
    (h : ∀ s', Nx b [env.locals] s s' → Fm b O B env s₀ ((z, lstV (flat (fun i => (List.range (Ps2 i).length).map (R2 i)) Ps.length)) :: G) s' → wpAny (model PW w) A (execs rest env) Q E s')
    (hl : env.kindOf z = some .local := by rfl) (hsw : swapsWith (lc2 elt (.Name x px) i1 (.Name y py) i2 scope pos) (some (.Name z pz)) spos.line env = pure true := by rfl)
    (hs : ∀ x, foldedSetIterable i1 env x = pure x := by intro _; rfl) (hs2 : ∀ (C : Addr) v, foldedSetIterable i2 (inner scope C env) v = pure v := by intro _ _; rfl) :
    wpAny (model PW w) A (execs (.Assign [.Name z pz] (lc2 elt (.Name x px) i1 (.Name y py) i2 scope pos) spos :: rest) env) Q E s := by
  refine wpAny_execs_cons ?_
  rw [exec_Assign_Name_used _ _ _ _ hsw]
  refine wpAny_bind (wpAny_standAt (wpAny_bind ?_))
  show wpAny _ A (do let _ ← comprehension (lc2 elt (.Name x px) i1 (.Name y py) i2 scope pos) scope env _ (newList []) false (eval i1 env) (some (assign (.Name z pz) env))) _ _ s
  refine wpAny_bind (wpAny_mono (wpAny_comprehension_free (use := some (assign (.Name z pz) env)) (Q := fun _ s' => wpAny (model PW w) A (execs rest env) Q E s') rfl hs (closureFor_eq hcl) hk hnames
    (hi O B s₀ s _ _ F fun I J s1 N1 it j0 hI => ?_)) (fun _ s' hq => wpAny_pure (wpAny_pure hq)) fun _ _ e => e)
  refine comp2_core (RR := fun acc C => compPost (model PW w) A E (some (assign (.Name z pz) env)) (fun _ s' => wpAny (model PW w) A (execs rest env) Q E s') acc C) Ps2 R2 W hA F N1 it j0 hI hk nd hc hO hx hy hGx hGy hxy hsz src turn ?_ hs2
  intro D C s' m N hp hn fC gC fD
  show wpAny _ A (assign (.Name z pz) env (.ref D)) _ _ _
  refine wpAny_assign_Name ((F.step N).setL hp (fun s2 N2 M2 F2 => ?_) hl)
  have hLC : C ≠ env.locals := fun q => by
    obtain ⟨m', hn', _⟩ := F.vars
    have := hn'.lt
    rw [← q] at this
    exact absurd this (Nat.not_lt.mpr fC)
  have hn2 := ns_nx hn N2 gC (fun q => hLC (List.mem_singleton.mp q))
  refine ⟨m, hn2, fun h' hs' => ?_⟩
  have hC : b.get? C = none := F.st.fresh fC
  have N3 : Nx b [C] s2 { s2 with heap := h', toks := s2.toks } := Nx.same N2.st hs' gC hC (NC.ns hn2)
  have F3 : Fm b O B env s₀ ((z, lstV (flat (fun i => (List.range (Ps2 i).length).map (R2 i)) Ps.length)) :: G) { s2 with heap := h' } := F2.stepM N3 fun a ha => by
    rw [List.mem_singleton.mp ha]
    refine ⟨fun q => ?_, Nat.le_trans F.nx.sz fC, .inr (ns_noseq hn2)⟩
    rcases q with q | ⟨y, hy⟩
    · exact hLC q
    · exact absurd (F.lc y C hy).1 (Nat.not_lt.mpr fC)
  exact h _ ((N.lt0 N2).trans N3 (fun c hc => .inl hc) (fun c hc => .inr (by rw [List.mem_singleton.mp hc]; exact fC))) F3
end
end Mine
end -- V15
section -- C0
/-! C0: walking a built-in's own text from a ledger of fresh objects -/
set_option maxRecDepth 100000
namespace Mine
open PySem PySem.W PySem.Calls PyProof.Rows Builtin
set_option maxHeartbeats 1000000
section
variable {M : Model} {A : Around} {E : Value → Shared → Prop} {s : Shared} {α β : Type}
theorem wpAny_ifF {c : Bool} {t e : Sem α} {Q : α → Shared → Prop} (hc : c = false) (h : wpAny M A e Q E s) : wpAny M A (if c = true then t else e) Q E s := by rw [if_neg (by rw [hc]; decide)]; exact h
theorem wpAny_ifT {c : Bool} {t e : Sem α} {Q : α → Shared → Prop} (hc : c = true) (h : wpAny M A t Q E s) : wpAny M A (if c = true then t else e) Q E s := by rw [if_pos hc]; exact h
theorem wpAny_ifN {c : Prop} [Decidable c] {t e : Sem α} {Q : α → Shared → Prop} (hc : ¬ c) (h : wpAny M A e Q E s) : wpAny M A (if c then t else e) Q E s := by rw [if_neg hc]; exact h
theorem wpAny_ifP {c : Prop} [Decidable c] {t e : Sem α} {Q : α → Shared → Prop} (hc : c) (h : wpAny M A t Q E s) : wpAny M A (if c then t else e) Q E s := by rw [if_pos hc]; exact h
noncomputable def stepQ (M : Model) (A : Around) (E : Value → Shared → Prop) (Q : β → Shared → Prop) (l : List α) (f : α → β → Sem (ForInStep β)) : ForInStep β → Shared → Prop
  | .done x, s => Q x s
  | .yield x, s => wpAny M A (forIn l x f) Q E s
theorem wpAny_forCons {l l' : List α} {a : α} {b : β} {f : α → β → Sem (ForInStep β)} {Q : β → Shared → Prop} (e : l' = a :: l) (h : wpAny M A (f a b) (stepQ M A E Q l f) E s) : wpAny M A (forIn l' b f) Q E s := by
  rw [e, List.forIn_cons]
  refine wpAny_bind (wpAny_mono h (fun r s' hr => ?_) fun _ _ e => e)
  cases r with
  | done x => exact wpAny_pure hr
  | yield x => exact hr
theorem wpAny_forNil {l' : List α} {b : β} {f : α → β → Sem (ForInStep β)} {Q : β → Shared → Prop} (e : l' = []) (h : Q b s) : wpAny M A (forIn l' b f) Q E s := by
  rw [e, List.forIn_nil]; exact wpAny_pure h
theorem wpAny_forArr {l : List α} {l' : Array α} {b : β} {f : α → β → Sem (ForInStep β)} {Q : β → Shared → Prop} (e : l'.toList = l) (h : wpAny M A (forIn l b f) Q E s) : wpAny M A (forIn l' b f) Q E s := by
  rw [← Array.forIn_toList, e]; exact h
theorem wpAny_nsGetO {a : Addr} {o : Obj} {name : Str} {r : Option Value} {Q : Option Value → Shared → Prop} (ho : s.heap.get? a = some o) (e : nsLook name o = pure r) (h : Q r s) : wpAny M A (nsGet a name) Q E s := by
  unfold nsGet
  refine wpAny_bind (wpAny_loadPart ho ?_)
  rw [e]; exact wpAny_pure h
end

noncomputable abbrev LL := List (Addr × Obj)
inductive At : LL → Addr → Obj → Prop
  | here {a o l} : At ((a, o) :: l) a o
  | there {p l a o} (h : At l a o) : At (p :: l) a o
theorem At.mem {l : LL} {a o} (h : At l a o) : (a, o) ∈ l := by induction h with | here => exact .head _ | there _ ih => exact .tail _ ih
inductive Upd (a : Addr) (o o' : Obj) : LL → LL → Prop
  | here {l} : Upd a o o' ((a, o) :: l) ((a, o') :: l)
  | there {p l l'} (h : Upd a o o' l l') : Upd a o o' (p :: l) (p :: l')
theorem Upd.at {a o o' l l'} (h : Upd a o o' l l') : At l a o := by induction h with | here => exact .here | there _ ih => exact .there ih
theorem Upd.at' {a o o' l l'} (h : Upd a o o' l l') : At l' a o' := by induction h with | here => exact .here | there _ ih => exact .there ih
theorem Upd.map {a o o' l l'} (h : Upd a o o' l l') : l'.map (·.1) = l.map (·.1) := by induction h with | here => rfl | there _ ih => simp [ih]
theorem Upd.mem {a o o' l l'} (h : Upd a o o' l l') (nd : (l.map (·.1)).Nodup) : ∀ p ∈ l', p = (a, o') ∨ (p ∈ l ∧ p.1 ≠ a) := by
  induction h with
  | @here l =>
    intro p hp
    rcases List.mem_cons.mp hp with rfl | hp
    · exact .inl rfl
    · refine .inr ⟨.tail _ hp, fun q => ?_⟩
      have h1 := (List.nodup_cons.mp nd).1
      exact h1 (by rw [← q]; exact List.mem_map_of_mem (f := (·.1)) hp)
  | @there p0 l l' h' ih =>
    intro p hp
    rcases List.mem_cons.mp hp with rfl | hp
    · refine .inr ⟨.head _, fun q => ?_⟩
      have h1 := (List.nodup_cons.mp nd).1
      exact h1 (by show p.1 ∈ _; rw [q]; exact List.mem_map_of_mem (f := (·.1)) h'.at.mem)
    · rcases ih (List.nodup_cons.mp nd).2 p hp with e | ⟨e1, e2⟩
      · exact .inl e
      · exact .inr ⟨.tail _ e1, e2⟩
structure Led (b : Heap) (X : List Addr) (s₀ s : Shared) (L : LL) : Prop where
  st0 : St0 b s₀
  nx : Nx0 b X s₀ s
  al : ∀ a o, a ∉ X → s₀.heap.get? a = some o → s.heap.get? a = some o
  at_ : ∀ p ∈ L, s.heap.get? p.1 = some p.2
  new : ∀ p ∈ L, s₀.heap.objs.size ≤ p.1
  nd : (L.map (·.1)).Nodup
section
variable {w : World} {A : Around} {E : Value → Shared → Prop} {s s₀ : Shared} {b : Heap} {mg mb : Str → Option Value} {bm : Addr} {ob : Obj} {L L' : LL} {a : Addr} {o o' : Obj} {X : List Addr}
theorem Led.start (st : St0 b s) : Led b X s s [] := ⟨st, Nx0.refl st, (fun _ _ _ e => e), (fun _ h => nomatch h), (fun _ h => nomatch h), List.nodup_nil⟩
theorem Led.st (D : Led b X s₀ s L) : St0 b s := D.nx.s0
theorem Led.get (D : Led b X s₀ s L) (i : At L a o) : s.heap.get? a = some o := D.at_ _ i.mem
theorem Led.old (D : Led b X s₀ s L) (e : s₀.heap.get? a = some o) (g : 232 < a) (hX : a ∉ X) : s.heap.get? a = some o := D.nx.kp a o (notab_of g) hX e
theorem Led.step {s' : Shared} (D : Led b X s₀ s L) (N : Nx0 b [] s s') (hk : ∀ a o, s.heap.get? a = some o → s'.heap.get? a = some o) : Led b X s₀ s' L :=
  ⟨D.st0, D.nx.rt0 N, fun a o h e => hk _ _ (D.al a o h e), fun p hp => hk _ _ (D.at_ p hp), D.new, D.nd⟩
theorem Led.toks {k : Nat} (D : Led b X s₀ s L) : Led b X s₀ { s with toks := k } L := ⟨D.st0, D.nx.toks, D.al, D.at_, D.new, D.nd⟩
theorem Led.push (D : Led b X s₀ s L) (hf : o.isFreed = false) : Led b X s₀ { s with heap := s.heap.push o } ((s.heap.objs.size, o) :: L) where
  st0 := D.st0
  nx := D.nx.rt0 (Nx0.push D.st)
  al := fun a o h e => Heap.get?_push_of_some _ (D.al a o h e)
  at_ := fun p hp => by
    rcases List.mem_cons.mp hp with rfl | hp
    · exact Heap.get?_push_size _ hf
    · exact Heap.get?_push_of_some _ (D.at_ p hp)
  new := fun p hp => by
    rcases List.mem_cons.mp hp with rfl | hp
    · exact D.nx.sz
    · exact D.new p hp
  nd := List.nodup_cons.mpr ⟨fun h => by
    obtain ⟨p, hp, e⟩ := List.mem_map.mp h
    have := Heap.lt_size (D.at_ p hp)
    rw [e] at this
    exact Nat.lt_irrefl _ this, D.nd⟩
theorem Led.upd {f : Obj → Obj} (D : Led b X s₀ s L) (u : Upd a o o' L L') (e : f o = o') (hf : o'.isFreed = false) (gs : 232 < s₀.heap.objs.size) : Led b X s₀ { s with heap := s.heap.update a f } L' := by
  have ha := D.new _ u.at.mem
  have ga : 232 < a := Nat.lt_of_lt_of_le gs ha
  have fa : b.get? a = none := D.st0.fresh ha
  refine ⟨D.st0, D.nx.trans (Nx0.upd D.st ga fa) (fun _ h => .inl h) (fun c hc => .inr (by rw [List.mem_singleton.mp hc]; exact ha)), fun c o₁ h e₁ => (Heap.get?_update_ne _ _ _ _ (fun q => absurd (Heap.lt_size e₁) (Nat.not_lt.mpr (by rw [show c = a from q]; exact ha)))).trans (D.al c o₁ h e₁), fun p hp => ?_, fun p hp => ?_, by rw [u.map]; exact D.nd⟩
  · rcases u.mem D.nd p hp with rfl | ⟨h1, h2⟩
    · exact Heap.get?_update_self _ (D.get u.at) (by rw [e]; exact hf) |>.trans (by rw [e])
    · exact (Heap.get?_update_ne _ _ _ _ h2).trans (D.at_ p h1)
  · rcases u.mem D.nd p hp with rfl | ⟨h1, h2⟩
    · exact ha
    · exact D.new p h1

theorem led_alloc {Q : Addr → Shared → Prop} (D : Led b X s₀ s L) (h : ∀ a s', Led b X s₀ s' ((a, o) :: L) → Q a s') (hf : o.isFreed = false := by rfl) : wpAny (model PW w) A (alloc o) Q E s :=
  wpAny_alloc (h _ _ (D.push hf))
theorem led_newObj {T : String} {data : Data} {Q : Value → Shared → Prop} (D : Led b X s₀ s L) (h : ∀ a s', Led b X s₀ s' ((a, { cls := .type T, data }) :: L) → Q (.ref a) s') (hf : (Obj.mk (.type T) none data #[]).isFreed = false := by rfl) (hd : sizeOk data := by size_fits) : wpAny (model PW w) A (newObj (.type T) data) Q E s :=
  wpAny_newObj_type (h _ _ (D.push hf)) hd
theorem led_newAsIs {T : String} {data : Data} {Q : Value → Shared → Prop} (D : Led b X s₀ s L) (h : ∀ a s', Led b X s₀ s' ((a, { cls := .type T, data }) :: L) → Q (.ref a) s') (hf : (Obj.mk (.type T) none data #[]).isFreed = false := by rfl) : wpAny (model PW w) A (newObjAsIs (.type T) data) Q E s :=
  wpAny_newObjAsIs_type (h _ _ (D.push hf))
theorem led_text {x : Str} {Q : Value → Shared → Prop} (D : Led b X s₀ s L) (h : ∀ t s', Led b X s₀ s' L → Q (.str x t) s') : wpAny (model PW w) A (mkText x) Q E s := wpAny_mkText (h _ _ D.toks)
theorem led_str {x : Str} {Q : Value → Shared → Prop} (D : Led b X s₀ s L) (h : ∀ t s', Led b X s₀ s' L → Q (.str x t) s') (hx : x.length ≤ sizeLine := by size_fits) : wpAny (model PW w) A (mkStr x) Q E s := wpAny_mkStr (h _ _ D.toks) hx
theorem led_int {i : Int} {Q : Value → Shared → Prop} (D : Led b X s₀ s L) (h : ∀ t s', Led b X s₀ s' L → Q (.int i t) s') : wpAny (model PW w) A (mkInt i) Q E s := wpAny_mkInt (h _ _ D.toks)
theorem led_updatePart {part : Option Value} {f : Obj → Obj} {Q : Unit → Shared → Prop} (D : Led b X s₀ s L) (gs : 232 < s₀.heap.objs.size) (u : Upd a o o' L L') (e : f o = o') (h : ∀ s', Led b X s₀ s' L' → Q () s') (hf : o'.isFreed = false := by rfl) : wpAny (model PW w) A (updatePart a part f) Q E s :=
  wpAny_updatePart (D.get u.at) (h _ (D.upd u e hf gs))
theorem led_update {f : Obj → Obj} {Q : Unit → Shared → Prop} (D : Led b X s₀ s L) (gs : 232 < s₀.heap.objs.size) (u : Upd a o o' L L') (e : f o = o') (h : ∀ s', Led b X s₀ s' L' → Q () s') (hf : o'.isFreed = false := by rfl) : wpAny (model PW w) A (update a f) Q E s :=
  wpAny_update (D.get u.at) (h _ (D.upd u e hf gs))
theorem led_slot {i : Nat} {v : Option Value} {Q : Unit → Shared → Prop} {c : Value} {d : Option Addr} {dt : Data} {sl sl' : Array (Option Value)} (D : Led b X s₀ s L) (gs : 232 < s₀.heap.objs.size) (u : Upd a ⟨c, d, dt, sl⟩ ⟨c, d, dt, sl'⟩ L L')
    (e : (sl ++ Array.replicate (i + 1 - sl.size) none).setIfInBounds i v = sl') (h : ∀ s', Led b X s₀ s' L' → Q () s') (hi : i < sizeLine := by decide) (hf : (Obj.mk c d dt sl').isFreed = false := by rfl) : wpAny (model PW w) A (setSlotAt a i v) Q E s := by
  unfold setSlotAt
  rw [if_neg (Nat.not_le.mpr hi)]
  exact led_updatePart D gs u (by rw [← e]) h hf
theorem led_cls {f : ClassData → ClassData} {Q : Unit → Shared → Prop} {c : Value} {d : Option Addr} {cd cd' : ClassData} {sl : Array (Option Value)} (D : Led b X s₀ s L) (gs : 232 < s₀.heap.objs.size) (u : Upd a ⟨c, d, .cls cd, sl⟩ ⟨c, d, .cls cd', sl⟩ L L') (e : f cd = cd')
    (hp : (Data.cls cd').pastItsLine = none) (h : ∀ s', Led b X s₀ s' L' → Q () s') : wpAny (model PW w) A (updateCls a f) Q E s := by
  unfold updateCls
  refine wpAny_bind (wpAny_load (D.get u.at) ?_)
  refine wpAny_bind (led_update (o' := ⟨c, d, .cls cd', sl⟩) D gs u (by rw [← e]; rfl) fun s' D' => ?_)
  exact wpAny_lookBehind (o := ⟨c, d, .cls cd', sl⟩) (D'.get u.at') hp (h s' D')
theorem led_nsSet {name : Str} {v : Value} {Q : Unit → Shared → Prop} {c : Value} {d : Option Addr} {es : Array DictEntry} {n : Nat} {sl : Array (Option Value)} {o' : Tok → Obj} {L' : Tok → LL} (D : Led b X s₀ s L) (gs : 232 < s₀.heap.objs.size) (u : ∀ t, Upd a ⟨c, d, .dict es n, sl⟩ (o' t) L (L' t))
    (e : ∀ t, Obj.putName name (PyData.keyHash w.params name) (.str name t) v ⟨c, d, .dict es n, sl⟩ = o' t) (h : ∀ t s', Led b X s₀ s' (L' t) → Q () s') (hr : aRefKeyMayBeTheName name es = false := by kernel_rfl) (hf : ∀ t, (o' t).isFreed = false := by intro _; rfl) : wpAny (model PW w) A (nsSet a name v) Q E s := by
  unfold nsSet strHash
  refine wpAny_bind (wpAny_bind (wpAny_askSetting (wpAny_pure ?_)))
  refine wpAny_bind (led_text D fun t s1 D1 => ?_)
  refine wpAny_bind (wpAny_loadPart (D1.get (u 0).at) ?_)
  show wpAny _ _ (if aRefKeyMayBeTheName name es = true then _ else _) _ _ _
  refine wpAny_ifF hr ?_
  exact led_updatePart D1 gs (u t) (e t) (h t) (hf t)
theorem led_nsSetV {name : Str} {v : Value} {Q : Unit → Shared → Prop} {c : Value} {d : Option Addr} {es : Array DictEntry} {n : Nat} {sl : Array (Option Value)} {o' : Tok → Obj} {L' : Tok → LL} (D : Led b X s₀ s L) (gs : 232 < s₀.heap.objs.size) (u : ∀ t, Upd a ⟨c, d, .dict es n, sl⟩ (o' t) L (L' t))
    (e : ∀ t, Obj.putName name (PyData.keyHash w.params name) (.str name t) v ⟨c, d, .dict es n, sl⟩ = o' t) (h : ∀ t s', Led b X s₀ s' (L' t) → Q () s') (hz : es.size ≤ sizeLine := by decide) (hr : aRefKeyMayBeTheName name es = false := by kernel_rfl) (hf : ∀ t, (o' t).isFreed = false := by intro _; rfl) : wpAny (model PW w) A (nsSetByValue a name v) Q E s := by
  unfold nsSetByValue
  refine wpAny_bind (wpAny_loadPart (D.get (u 0).at) ?_)
  have q : decide (es.size > sizeLine) = false := decide_eq_false (Nat.not_lt.mpr hz)
  show wpAny _ _ (if (decide (es.size > sizeLine) && noSuchName name es) = true then _ else nsSet a name v) _ _ _
  rw [q]
  exact led_nsSet D gs u e h hr hf
theorem led_nsDel {name : Str} {Q : Bool → Shared → Prop} (D : Led b X s₀ s L) (gs : 232 < s₀.heap.objs.size) (u : Upd a o o' L L') (e : Obj.dropName name o = o') (h : ∀ s', Led b X s₀ s' L' → Q true s') (hh : nsHas name o = pure true := by kernel_rfl) (hf : o'.isFreed = false := by rfl) : wpAny (model PW w) A (nsDel a name) Q E s := by
  unfold nsDel
  refine wpAny_bind (wpAny_loadPart (D.get u.at) ?_)
  rw [hh]
  refine wpAny_bind (wpAny_pure (wpAny_ifT rfl (wpAny_bind (led_updatePart D gs u e (fun s' D' => wpAny_pure (h s' D')) hf))))
theorem led_nsGet {name : Str} {r : Option Value} {Q : Option Value → Shared → Prop} (D : Led b X s₀ s L) (i : At L a o) (e : nsLook name o = pure r) (h : Q r s) : wpAny (model PW w) A (nsGet a name) Q E s := wpAny_nsGetO (D.get i) e h
theorem led_load {Q : Obj → Shared → Prop} (D : Led b X s₀ s L) (i : At L a o) (h : Q o s) : wpAny (model PW w) A (load a) Q E s := wpAny_load (D.get i) h
theorem led_slotAt {i : Nat} {Q : Option Value → Shared → Prop} (D : Led b X s₀ s L) (j : At L a o) (h : Q ((o.slots[i]?).join) s) : wpAny (model PW w) A (slotAt a i) Q E s := by
  unfold slotAt
  exact wpAny_bind (wpAny_loadPart (D.get j) (wpAny_pure h))
theorem led_classData {c : Value} {d : Option Addr} {cd : ClassData} {sl : Array (Option Value)} {Q : ClassData → Shared → Prop} (D : Led b X s₀ s L) (j : At L a ⟨c, d, .cls cd, sl⟩) (h : Q cd s) : wpAny (model PW w) A (classData a) Q E s := by
  unfold classData
  exact wpAny_bind (wpAny_load (D.get j) (wpAny_pure h))
theorem led_mroOf {c : Value} {d : Option Addr} {cd : ClassData} {sl : Array (Option Value)} {Q : List Value → Shared → Prop} (D : Led b X s₀ s L) (j : At L a ⟨c, d, .cls cd, sl⟩) (h : Q cd.mro s) : wpAny (model PW w) A (mroOf (.ref a)) Q E s :=
  wpAny_bind (led_classData D j (wpAny_pure h))
theorem led_lookup0 {name : Str} {r : Option Value} {c : Value} {d : Option Addr} {cd : ClassData} {sl : Array (Option Value)} {on : Obj} {Q : Option Value → Shared → Prop} (D : Led b X s₀ s L) (j : At L a ⟨c, d, .cls cd, sl⟩) (hm : cd.mro = [.ref a, .type "object"]) (jn : At L cd.ns on)
    (e : nsLook name on = pure none) (hr : builtinOwn "object" name = r) (h : Q r s) : wpAny (model PW w) A (typeLookup (.ref a) name) Q E s := by
  unfold typeLookup
  refine wpAny_bind (led_mroOf D j (wpAny_bind (wpAny_forCons hm ?_)))
  refine wpAny_bind (wpAny_bind (led_classData D j (led_nsGet D jn e ?_)))
  refine wpAny_pure (wpAny_forCons rfl (wpAny_bind (wpAny_pure ?_)))
  rw [hr]
  cases r with
  | none => exact wpAny_pure (wpAny_forNil rfl (wpAny_pure h))
  | some v => exact wpAny_pure (wpAny_pure h)

end
end Mine
end -- C0
section -- C1
/-! C1: the plan of a class's slots -/
set_option maxRecDepth 100000
namespace Mine
open PySem PySem.W PySem.Calls PyProof.Rows Builtin
set_option maxHeartbeats 1000000

section
variable {w : World} {A : Around} {E : Value → Shared → Prop} {s s₀ : Shared} {b : Heap} {mg mb : Str → Option Value} {bm : Addr} {ob : Obj} {L : LL} {X : List Addr}

noncomputable def Ks : Str := Str.ofString "K"
/-- the class's namespace as the body leaves it -/
structure KV where
  t : Nat → Tok
  h : Nat → Int
  sl : Addr
  sa : Addr
  f : Nat → Addr
  n : Int
noncomputable def ents (K : KV) (qn mo : Str) : Array DictEntry := #[
  ⟨K.h 0, .str (Str.ofString "__module__") (K.t 0), .str mo (K.t 1)⟩,
  ⟨K.h 1, .str (Str.ofString "__qualname__") (K.t 2), .str qn (K.t 3)⟩,
  ⟨K.h 2, .str (Str.ofString "__firstlineno__") (K.t 4), .int K.n (K.t 5)⟩,
  ⟨K.h 3, .str (Str.ofString "__slots__") (K.t 6), .ref K.sl⟩,
  ⟨K.h 4, .str (Str.ofString "__init__") (K.t 7), .ref (K.f 0)⟩,
  ⟨K.h 5, .str (Str.ofString "__lt__") (K.t 8), .ref (K.f 1)⟩,
  ⟨K.h 6, .str (Str.ofString "__gt__") (K.t 9), .ref (K.f 2)⟩,
  ⟨K.h 7, .str (Str.ofString "__eq__") (K.t 10), .ref (K.f 3)⟩,
  ⟨K.h 8, .str (Str.ofString "__le__") (K.t 11), .ref (K.f 4)⟩,
  ⟨K.h 9, .str (Str.ofString "__ge__") (K.t 12), .ref (K.f 5)⟩,
  ⟨K.h 10, .str (Str.ofString "__hash__") (K.t 13), .none⟩,
  ⟨K.h 11, .str (Str.ofString "__static_attributes__") (K.t 14), .ref K.sa⟩]
noncomputable def slotPlan : Slots.Plan := { names := [Str.ofString "obj"], dict := false, weak := false, inherited := [] }

theorem slots_read {qn mo : Str} {K : KV} {t0 : Tok} {n : Nat} {Q : Slots.Plan → Shared → Prop} (hA : A.handled = none) (W : WW w b mg mb bm ob) (D : Led b X s₀ s L)
   (hsl : s.heap.get? K.sl = some ⟨.type "list", none, .seq #[.str (Str.ofString "obj") t0] n, #[]⟩) (h : ∀ s', Led b X s₀ s' L → Q slotPlan s')
   : wpAny (model PW w) A (Slots.read Ks [.type "object"] (ents K qn mo)) Q E s := by
  have gs : 232 < s₀.heap.objs.size := D.st0.lt W
  unfold Slots.read
  refine wpAny_bind (wpAny_of_eq (show Slots.bestBase [.type "object"] = pure (.type "object") by kernel_rfl) ?_)
  refine wpAny_bind (wpAny_of_eq (show Slots.slotNamesOf (.type "object") = pure [] by kernel_rfl) ?_)
  refine wpAny_bind (wpAny_of_eq (show Slots.givesDict (.type "object") = pure false by kernel_rfl) ?_)
  refine wpAny_bind (wpAny_of_eq (show Slots.givesWeak (.type "object") = pure false by kernel_rfl) ?_)
  refine wpAny_bind (wpAny_of_eq (show Slots.varSize (.type "object") = pure false by kernel_rfl) ?_)
  have e : (ents K qn mo).find? (·.key.isStr "__slots__") = some ⟨K.h 3, .str (Str.ofString "__slots__") (K.t 6), .ref K.sl⟩ := by kernel_rfl
  rw [e]
  (with_reducible (conv => arg 3; whnf))
  refine wpAny_bind (wpAny_rule (wpAny_bind ?_))
  refine wpAny_bind (wpAny_load hsl (wpAny_pure ?_))
  (with_reducible (conv => arg 3; whnf))
  refine wpAny_ifF rfl ?_
  refine wpAny_bind (wpAny_size (Nat.le_refl _) (wpAny_collect_seq K.sl (.inl rfl) hsl rfl rfl (fun h' hk hs => ?_) (by show 1 ≤ sizeLine; decide)))
  have D1 := D.step (Nx0.all D.st (s' := { s with heap := h' }) hk rfl rfl rfl hs) hk
  (with_reducible (conv => arg 3; whnf))
  refine wpAny_ifT rfl ?_
  refine wpAny_bind (wpAny_of_eq (show Slots.varSize (.type "object") = pure false by kernel_rfl) ?_)
  refine wpAny_ifF rfl ?_
  (with_reducible (conv => arg 3; whnf))
  refine wpAny_bind (wpAny_forCons rfl ?_)
  (with_reducible (conv => arg 3; whnf))
  refine wpAny_bind (wpAny_of_eq (show asStr? (.str (Str.ofString "obj") t0) = pure (some (Str.ofString "obj")) from rfl) ?_)
  (with_reducible (conv => arg 3; whnf))
  refine wpAny_bind (wpAny_pure ?_)
  (with_reducible (conv => arg 3; whnf))
  rw [show Slots.isIdentifier (Str.ofString "obj") = some true by kernel_rfl]
  (with_reducible (conv => arg 3; whnf))
  refine wpAny_bind (wpAny_pure ?_)
  (with_reducible (conv => arg 3; whnf))
  refine wpAny_ifF rfl ?_
  (with_reducible (conv => arg 3; whnf))
  refine wpAny_ifF (by decide) (wpAny_ifF (by decide) ?_)
  (with_reducible (conv => arg 3; whnf))
  refine wpAny_pure ?_
  show wpAny _ _ _ _ _ _
  refine wpAny_forNil rfl ?_
  (with_reducible (conv => arg 3; whnf))
  refine wpAny_bind (wpAny_forArr (l := [Str.ofString "obj"]) rfl (wpAny_forCons rfl ?_))
  (with_reducible (conv => arg 3; whnf))
  refine wpAny_ifN (by rw [show Slots.mangle Ks (Str.ofString "obj") = Str.ofString "obj" by kernel_rfl]; decide) ?_
  (with_reducible (conv => arg 3; whnf))
  refine wpAny_ifF (by kernel_rfl) ?_
  (with_reducible (conv => arg 3; whnf))
  refine wpAny_ifF (by kernel_rfl) ?_
  (with_reducible (conv => arg 3; whnf))
  refine wpAny_pure ?_
  show wpAny _ _ _ _ _ _
  refine wpAny_forNil rfl ?_
  (with_reducible (conv => arg 3; whnf))
  refine wpAny_bind (wpAny_forCons rfl ?_)
  (with_reducible (conv => arg 3; whnf))
  refine wpAny_ifF (by kernel_rfl) ?_
  (with_reducible (conv => arg 3; whnf))
  refine wpAny_pure ?_
  show wpAny _ _ _ _ _ _
  refine wpAny_forNil rfl ?_
  refine wpAny_pure ?_
  exact Eq.mpr (congrFun (congrArg Q (show _ = slotPlan by kernel_rfl)) _) (h _ D1)
end
end Mine
end -- C1
section -- C1S
/-! C1S: super(C, C).__init_subclass__() -/
set_option maxRecDepth 100000
namespace Mine
open PySem PySem.W PySem.Calls PyProof.Rows Builtin
set_option maxHeartbeats 2000000

theorem slot_cmd_get : Slot "classmethod_descriptor" "__get__" "classmethod_descriptor.__get__" := .of (owner := "classmethod_descriptor") (n := "__get__") (by rw [typeLookup_type, builtinLookup_eq_fast]; kernel_rfl) (by decide +kernel) (by decide +kernel) (by decide +kernel)
  (by first | exact .inl (by decide +kernel) | exact .inr (by decide +kernel)) (by rw [isSubtype_type]; kernel_rfl)
theorem entry_cmd_get : entryFor table "classmethod_descriptor.__get__" = some Builtin.«classmethod_descriptor.__get__» := entryFor_of_tree (by kernel_rfl)
theorem own_cmd : Manifest.owners.lookup (String.ofList ['r', 'o', 't', 'p', 'i', 'r', 'c', 's', 'e', 'd', '_', 'd', 'o', 'h', 't', 'e', 'm', 's', 's', 'a', 'l', 'c'].reverse) = some Manifest.sig_classmethod_descriptor := by kernel_rfl
theorem args_cmd_get (a b c : Value) : argsOk "classmethod_descriptor.__get__" ⟨[a, b, c], []⟩ := by
  unfold argsOk; rw [signature?_of (id := "classmethod_descriptor.__get__") (n := ['_', '_', 't', 'e', 'g', '_', '_']) (o := ['r', 'o', 't', 'p', 'i', 'r', 'c', 's', 'e', 'd', '_', 'd', 'o', 'h', 't', 'e', 'm', 's', 's', 'a', 'l', 'c']) (by kernel_rfl) own_cmd]; kernel_rfl
theorem entry_isub : entryFor table "object.__init_subclass__" = some Builtin.«object.__init_subclass__» := entryFor_of_tree (by kernel_rfl)
noncomputable def qnK : Str := Str.ofString "cmp_to_key.<locals>.K"
theorem sig_isub (C : Addr) : ∃ sig, Manifest.signature? "object.__init_subclass__" = some sig ∧ Bind.checkArgs "object.__init_subclass__" { sig with full := s!"{qnK.toString}.{Bind.lastOf "object.__init_subclass__"}" } ⟨[.ref C], []⟩ = pure () :=
  ⟨(Manifest.signature? "object.__init_subclass__").get (by decide +kernel), by simp, by kernel_rfl⟩

section
variable {w : World} {A : Around} {E : Value → Shared → Prop} {s s₀ : Shared} {b : Heap} {mg mb : Str → Option Value} {bm : Addr} {ob : Obj} {L : LL} {X : List Addr}

noncomputable def superC (C : Addr) : Obj := { cls := .type "super", dict := none, data := .fields #[.ref C, .ref C, .ref C], slots := #[] }

theorem subtype_own {h : Heap} {C : Addr} {oC : Obj} {cd : ClassData} {x : Value} (hC : h.get? C = some oC) (hd : oC.data = .cls cd) (hm : cd.mro = [.ref C, .type "object"]) (hx : x = .ref C ∨ x = .type "object") : Looks (model PW w) h (isSubtype (.ref C) x) true := fun A Q E s k q => by
  unfold isSubtype
  refine wpAny_bind (wpAny_bind (wpAny_bind (wpAny_load (k _ _ hC) ?_)))
  rw [hd]
  refine wpAny_pure (wpAny_pure ?_)
  rw [hm]
  refine wpAny_ifF rfl (wpAny_pure ?_)
  have : [Value.ref C, Value.type "object"].contains x = true := by rcases hx with rfl | rfl <;> simp
  rw [this]; exact q
theorem check_isub {C : Addr} {sl : Array (Option Value)} {cd : ClassData} (hC : s.heap.get? C = some ⟨.type "type", none, .cls cd, sl⟩) (hqn : cd.qualname = qnK) {Q : Unit → Shared → Prop} (hq : Q () s) :
    wpAny (model PW w) A (checkBoundCall "object.__init_subclass__" ⟨[.ref C], []⟩) Q E s := by
  obtain ⟨sig, e1, e2⟩ := sig_isub C
  have e3 : builtinKind "object.__init_subclass__" = some .classMethod := by kernel_rfl
  have hT : s.TypeIs (.ref C) "type" := ⟨_, hC, rfl⟩
  have i1 : isSubtype (.type "type") (.type "module") = pure false := by rw [isSubtype_type]; kernel_rfl
  have v1 : (Manifest.varargsMethods.contains "object.__init_subclass__" || false) = false := by decide +kernel
  unfold checkBoundCall
  rw [e1, e3]
  (with_reducible (conv => arg 3; whnf))
  refine wpAny_ifF rfl ?_
  (with_reducible (conv => arg 3; whnf))
  refine wpAny_bind (wpAny_isInstance hT i1 ?_)
  refine wpAny_ifF v1 ?_
  (with_reducible (conv => arg 3; whnf))
  refine wpAny_bind ?_
  obtain ⟨h, g, d, t, os⟩ := s
  refine ks_wpAny_isType_cls hC rfl (wpAny_ifT rfl (wpAny_bind (wpAny_pure ?_)))
  (with_reducible (conv => arg 3; whnf))
  refine wpAny_bind (wpAny_bind (wpAny_load hC (wpAny_pure ?_)))
  refine wpAny_bind (wpAny_typeOf hT ?_)
  refine wpAny_ifT rfl ?_
  rw [hqn, e2]
  exact wpAny_pure hq

theorem call_super_cls {h : Heap} {g : Array GenState} {d : Drawn} {t : Nat} {os : OsState} {C : Addr} {oC : Obj} {cd : ClassData} {Q : Value → Shared → Prop} (hC : h.get? C = some oC) (hd : oC.data = .cls cd) (hm : cd.mro = [.ref C, .type "object"])
    (hq : ∀ h', h'.get? h.objs.size = some (superC C) → (∀ y o, h.get? y = some o → h'.get? y = some o) → Q (.ref h.objs.size) ⟨h', g, d, t, os⟩) :
    wpAny (model PW w) A (call (.type "super") [.ref C, .ref C]) Q E ⟨h, g, d, t, os⟩ := by
  refine ks_callType_codesW (Q₁ := fun obj s₁ => obj = .ref h.objs.size ∧ s₁ = ⟨h.push { cls := .type "super", data := .fields #[.none, .none, .none] }, g, d, t, os⟩) F.ks_called_super (ks_wpAny_checkTypeCall_super hC hd) F.ks_entry_super_init
    (ks_code_super_new _ _ ⟨rfl, rfl⟩) fun obj s₁ h₁ => ?_
  obtain ⟨rfl, rfl⟩ := h₁
  have up : ∀ y o, h.get? y = some o → (h.push { cls := .type "super", data := .fields #[.none, .none, .none] }).get? y = some o := fun y o e => Heap.get?_push_of_some _ e
  have hso : (h.push { cls := .type "super", data := .fields #[.none, .none, .none] }).get? h.objs.size = some { cls := .type "super", dict := none, data := .fields #[.none, .none, .none], slots := #[] } := Heap.get?_push_at rfl rfl
  have hC' := up _ _ hC
  have hsub' : Looks (model PW w) (h.push { cls := .type "super", data := .fields #[.none, .none, .none] }) (isSubtype (.ref C) (.ref C)) true := subtype_own hC' hd hm (.inl rfl)
  refine ⟨⟨_, hso, rfl⟩, F.ks_initArgs_super _ _ _, ?_⟩
  unfold Builtin.«super.__init__» noKeywords
  repeat (first | (with_reducible refine ks_wpAny_isType_cls hC' hd ?_) | (with_reducible refine Looks.at hsub' ?_) | (with_reducible refine ks_wpAny_super_set3 hso ?_) | wp_step)
  all_goals first
    | (intro h' e k; exact ⟨rfl, hq h' e fun y o ey => k y o (Nat.ne_of_lt (Heap.lt_size ey)) (up y o ey)⟩)
    | (refine ks_wpAny_super_set3 hso ?_; intro h' e k; exact ⟨rfl, hq h' e fun y o ey => k y o (Nat.ne_of_lt (Heap.lt_size ey)) (up y o ey)⟩)

theorem cmd_get {C : Addr} {oC : Obj} {cd : ClassData} {Q : Fin → Shared → Prop} (hC : s.heap.get? C = some oC) (hd : oC.data = .cls cd) (hm : cd.mro = [.ref C, .type "object"])
    (hq : Q (.done (.ret (.ref s.heap.objs.size))) { s with heap := s.heap.push (boundObj "builtin_function_or_method" "object.__init_subclass__" C) }) :
    wpAny (model PW w) A (Builtin.«classmethod_descriptor.__get__» ⟨[.builtin "object.__init_subclass__", .none, .ref C], []⟩) Q E s := by
  obtain ⟨h, g, d, t, os⟩ := s
  have hsub : Looks (model PW w) h (isSubtype (.ref C) (.type "object")) true := subtype_own hC hd hm (.inr rfl)
  unfold Builtin.«classmethod_descriptor.__get__»
  repeat (first | (with_reducible refine ks_wpAny_isType_cls hC hd ?_) | (with_reducible refine Looks.at hsub ?_) | (with_reducible refine wpAny_newObj_type ?_ (by size_fits)) | wp_step)
  rw [show (".".intercalate ("object.__init_subclass__".cutAt '.').dropLast) = "object" by decide +kernel]
  refine Looks.at hsub ?_
  (with_reducible (conv => arg 3; whnf))
  refine wpAny_ifF rfl ?_
  refine wpAny_bind (wpAny_newObj_type (data := .fields #[.builtin "object.__init_subclass__", .ref C]) (wpAny_pure hq) (by show 2 ≤ _; decide))

theorem super_ga_cls {so C : Addr} {sl : Array (Option Value)} {cd : ClassData} {tk : Tok} {Q : Fin → Shared → Prop} (W : WW w b mg mb bm ob) (st : St0 b s) (hC : s.heap.get? C = some ⟨.type "type", none, .cls cd, sl⟩) (hm : cd.mro = [.ref C, .type "object"]) (hso : s.heap.get? so = some (superC C))
    (hq : Q (.done (.ret (.ref s.heap.objs.size))) { s with heap := s.heap.push (boundObj "builtin_function_or_method" "object.__init_subclass__" C) }) :
    wpAny (model PW w) A (Builtin.«super.__getattribute__» ⟨[.ref so, .str (Str.ofString "__init_subclass__") tk], []⟩) Q E s := by
  have hdt : (superC C).data = .fields #[.ref C, .ref C, .ref C] := rfl
  have f0 : (#[.ref C, .ref C, .ref C] : Array Value)[0]? = some (.ref C) := rfl
  have f1 : (#[.ref C, .ref C, .ref C] : Array Value)[1]? = some (.ref C) := rfl
  have f2 : (#[.ref C, .ref C, .ref C] : Array Value)[2]? = some (.ref C) := rfl
  have X := st.k W
  have hno : Looks (model PW w) s.heap (opaqueClassAbove (.ref C)) none := looks_opaque X (by kernel_rfl)
  have hl : ([Value.ref C, Value.type "object"].dropWhile (· != .ref C)).drop 1 = [.type "object"] := by simp
  have hmro : Looks (model PW w) s.heap (mroOf (.ref C)) [.ref C, .type "object"] := fun A Q E s k q => wpAny_bind (wpAny_bind (wpAny_load (k _ _ hC) (wpAny_pure (wpAny_pure (by rw [hm]; exact q)))))
  have ho : classOwn (.type "object") (Str.ofString "__init_subclass__") = pure (some (.builtin "object.__init_subclass__")) := by show pure (builtinOwn _ _) = _; rw [builtinOwn_eq_fast]; kernel_rfl
  have htd : ∀ s' : Shared, s'.TypeIs (.builtin "object.__init_subclass__") "classmethod_descriptor" := fun _ => by show builtinType _ = _; rw [builtinType_eq_fast]; kernel_rfl
  have sg := slot_cmd_get
  have hlk := sg.lookup
  have hn : (Str.ofString "__init_subclass__" == ("__class__" : Str)) = false := by decide
  have heq : (Value.ref C == Value.ref C) = true := by simp
  have hbody : ∀ (A' : Around) (Q' : Fin → Shared → Prop) (E' : Value → Shared → Prop), Q' (.done (.ret (.ref s.heap.objs.size))) { s with heap := s.heap.push (boundObj "builtin_function_or_method" "object.__init_subclass__" C) } → wpAny (model PW w) A' (Builtin.«classmethod_descriptor.__get__» ⟨[.builtin "object.__init_subclass__", .none, .ref C], []⟩) Q' E' s := fun A' Q' E' q =>
    cmd_get hC rfl hm q
  obtain ⟨h, g, d, t, os⟩ := s
  unfold Builtin.«super.__getattribute__»
  repeat (first
    | (with_reducible refine wpAny_field hso hdt f0 ?_) | (with_reducible refine wpAny_field hso hdt f1 ?_) | (with_reducible refine wpAny_field hso hdt f2 ?_)
    | (with_reducible refine ks_wpAny_notOpaque hno ?_)
    | (with_reducible refine Looks.at hmro ?_; rw [hl])
    | (with_reducible refine wpAny_forCons rfl ?_)
    | (with_reducible refine wpAny_of_eq ho ?_)
    | (with_reducible refine wpAny_typeOf (htd _) ?_)
    | (with_reducible refine wpAny_call_entry sg (htd _) entry_cmd_get ?_ (args_cmd_get _ _ _))
    | (with_reducible refine hbody _ _ _ ?_)
    | (with_reducible refine ⟨_, rfl, ?_⟩)
    | (simp only [hn, heq, Bool.or_false, Bool.false_eq_true, if_false, if_true])
    | wp_step
    | dsimp only)
  exact wpAny_pure hq

theorem cls_super {C : Addr} {sl : Array (Option Value)} {cd : ClassData} {Q : Unit → Shared → Prop} (W : WW w b mg mb bm ob) (D : Led b X s₀ s L) (j : At L C ⟨.type "type", none, .cls cd, sl⟩) (hm : cd.mro = [.ref C, .type "object"]) (hqn : cd.qualname = qnK)
    (h : ∀ s', Led b X s₀ s' L → Q () s') :
    wpAny (model PW w) A (do let sup ← call (.type "super") [.ref C, .ref C]; let f ← holding [sup] (getAttr sup (Str.ofString "__init_subclass__")); let _ ← call f [] []; pure ()) Q E s := by
  have gs : 232 < s₀.heap.objs.size := D.st0.lt W
  have hC := D.get j
  obtain ⟨hh, g, d, t, os⟩ := s
  refine wpAny_bind (call_super_cls hC rfl hm fun h' hso hk => ?_)
  have hsz : hh.objs.size ≤ h'.objs.size := Nat.le_of_lt (Heap.lt_size hso)
  have D1 : Led b X s₀ ⟨h', g, d, t, os⟩ L := D.step (Nx0.all D.st hk rfl rfl rfl hsz) hk
  refine wpAny_bind (wpAny_holding ?_)
  have hlk := F.ks_slot_super_ga.lookup
  have hcan := F.ks_canon_super_ga
  have D1' : Led b X s₀ ⟨h', g, d, t + 1, os⟩ L := D1.toks
  have hT : ∀ t', (⟨h', g, d, t', os⟩ : Shared).TypeIs (.ref hh.objs.size) "super" := fun _ => ⟨_, hso, rfl⟩
  unfold getAttr getAttrBy
  refine wpAny_bind (wpAny_mkText (wpAny_holding (wpAny_bind (wpAny_typeOf (hT _) (wpAny_bind (wpAny_of_eq hlk ?_))))))
  show wpAny _ _ (getAttrByItsOwn (.ref hh.objs.size) (.str (Str.ofString "__init_subclass__") t) (.type "super") (.builtin "super.__getattribute__") true false) _ _ _
  unfold getAttrByItsOwn hookBefore callGetattribute boundAndCalled
  refine wpAny_bind (wpAny_of_eq (show (if onTheHeap (.type "super") then typeLookup (.type "super") "__getattr__" else pure none) = pure none from rfl) ?_)
  refine wpAny_bind (wpAny_attempt (wpAny_holding ?_))
  show wpAny _ _ (bindSpecial (.builtin "super.__getattribute__") (.ref hh.objs.size) >>= _) _ _ _
  refine wpAny_bind (wpAny_of_eq (F.ks_slot_super_ga.bind _) ?_)
  have D2 : Led b X s₀ ⟨h'.push (boundObj "builtin_function_or_method" "object.__init_subclass__" C), g, d, t + 1, os⟩ L := D1'.step (Nx0.push D1'.st) fun _ _ e => Heap.get?_push_of_some _ e
  have hq2 : (h'.push (boundObj "builtin_function_or_method" "object.__init_subclass__" C)).get? h'.objs.size = some (boundObj "builtin_function_or_method" "object.__init_subclass__" C) := Heap.get?_push_at rfl rfl
  refine wpAny_mono (Q := fun v s' => v = .ref h'.objs.size ∧ s' = ⟨h'.push (boundObj "builtin_function_or_method" "object.__init_subclass__" C), g, d, t + 1, os⟩) (E := fun _ _ => False)
    (wpAny_call_entry F.ks_slot_super_ga (hT _) F.ks_entry_super_ga (super_ga_cls W D1'.st (D1'.get j) hm hso ⟨_, rfl, rfl, rfl⟩) (F.ks_gaArgs_super _ _)) (fun v s' hv => ?_) fun _ _ z => z.elim
  obtain ⟨rfl, rfl⟩ := hv
  refine wpAny_pure ?_
  refine wpAny_bind (call_bound (kind := "builtin_function_or_method") (id := "object.__init_subclass__") hq2 (.inr rfl) (by decide +kernel) entry_isub (fun A' Q' E' q => check_isub (D2.get j) hqn q) ?_)
  unfold Builtin.«object.__init_subclass__»
  refine wpAny_ifT rfl (wpAny_bind (wpAny_pure (wpAny_pure ⟨_, rfl, wpAny_pure (h _ D2)⟩)))
end
end Mine
end -- C1S
section -- C2
/-! C2: type.__new__ for the class K -/
set_option maxRecDepth 100000
namespace Mine
open PySem PySem.W PySem.Calls PyProof.Rows Builtin
set_option maxHeartbeats 2000000

section
variable {w : World} {A : Around} {E : Value → Shared → Prop} {s s₀ : Shared} {b : Heap} {mg mb : Str → Option Value} {bm : Addr} {ob : Obj} {L : LL}

/-- the class's data: as it is made, and with its line -/
noncomputable def cd0 (ns : Addr) (qn : Str) : ClassData := { name := Ks, bases := [.type "object"], mro := [], ns, qualname := qn }
noncomputable def cd1 (ns : Addr) (qn : Str) (a : Addr) : ClassData := { name := Ks, bases := [.type "object"], mro := [.ref a, .type "object"], ns, qualname := qn, hasDel := false }
noncomputable def ents2 (K : KV) (mo : Str) : Array DictEntry := #[
  ⟨K.h 0, .str (Str.ofString "__module__") (K.t 0), .str mo (K.t 1)⟩,
  ⟨K.h 2, .str (Str.ofString "__firstlineno__") (K.t 4), .int K.n (K.t 5)⟩,
  ⟨K.h 3, .str (Str.ofString "__slots__") (K.t 6), .ref K.sl⟩,
  ⟨K.h 4, .str (Str.ofString "__init__") (K.t 7), .ref (K.f 0)⟩,
  ⟨K.h 5, .str (Str.ofString "__lt__") (K.t 8), .ref (K.f 1)⟩,
  ⟨K.h 6, .str (Str.ofString "__gt__") (K.t 9), .ref (K.f 2)⟩,
  ⟨K.h 7, .str (Str.ofString "__eq__") (K.t 10), .ref (K.f 3)⟩,
  ⟨K.h 8, .str (Str.ofString "__le__") (K.t 11), .ref (K.f 4)⟩,
  ⟨K.h 9, .str (Str.ofString "__ge__") (K.t 12), .ref (K.f 5)⟩,
  ⟨K.h 10, .str (Str.ofString "__hash__") (K.t 13), .none⟩,
  ⟨K.h 11, .str (Str.ofString "__static_attributes__") (K.t 14), .ref K.sa⟩]

noncomputable def hO (w : World) (x : Str) : Int := PyData.keyHash w.params x
noncomputable def eO (w : World) (t : Tok) (md : Addr) : DictEntry := ⟨hO w (Str.ofString "obj"), .str (Str.ofString "obj") t, .ref md⟩
noncomputable def eD (w : World) (t : Tok) : DictEntry := ⟨hO w (Str.ofString "__doc__"), .str (Str.ofString "__doc__") t, .none⟩
noncomputable def nsO (es : Array DictEntry) (n : Nat) : Obj := ⟨.type "dict", none, .dict es n, #[]⟩
noncomputable def mdO (t : Tok) (a : Addr) : Obj := ⟨.type "member_descriptor", none, .fields #[.str (Str.ofString "obj") t, .ref a, .builtin "proto.slot", .builtin "proto.slot#set", rawInt 0], #[]⟩
noncomputable def cd2 (ns : Addr) (qn : Str) (a : Addr) : ClassData := { name := Ks, bases := [.type "object"], mro := [.ref a, .type "object"], ns, qualname := qn, hasDict := false, slotNames := [Str.ofString "obj"], hasDel := false }

theorem noSet (T : String) (h : T ∈ ["str", "int", "list", "NoneType", "function", "tuple", "member_descriptor"]) : typeLookup (.type T) (Str.ofString "__set_name__") = pure none := by
  simp only [List.mem_cons, List.not_mem_nil, or_false] at h
  rcases h with rfl | rfl | rfl | rfl | rfl | rfl | rfl <;> (rw [typeLookup_type, builtinLookup_eq_fast]; kernel_rfl)

noncomputable def clsO (w : World) (bt ns C : Addr) (tn tq : Tok) : Obj := ⟨.type "type", none, .cls (cd2 ns qnK C), #[some (.ref bt), none, some (.str Ks tn), some (.str qnK tq), some (.builtin "object.__new__"), some (.bool false)]⟩
noncomputable def nsK (w : World) (K : KV) (mo : Str) (t2 t3 : Tok) (md : Addr) : Obj := nsO (((ents2 K mo).push (eO w t2 md)).push (eD w t3)) 3

theorem type_new {mo : Str} {K : KV} {t0 tn : Tok} {n : Nat} {bt nsA : Addr} {Q : Fin → Shared → Prop} (hA : A.handled = none) (W : WW w b mg mb bm ob) (st : St0 b s)
   (hbt : s.heap.get? bt = some ⟨.type "tuple", none, .seq #[.type "object"] 0, #[]⟩)
   (hns : s.heap.get? nsA = some ⟨.type "dict", none, .dict (ents K qnK mo) 12, #[]⟩)
   (hsl : s.heap.get? K.sl = some ⟨.type "list", none, .seq #[.str (Str.ofString "obj") t0] n, #[]⟩)
   (hf : ∀ i, i < 6 → ∃ o, s.heap.get? (K.f i) = some o ∧ o.cls = .type "function" ∧ 232 < K.f i) (hsa : ∃ o, s.heap.get? K.sa = some o ∧ o.cls = .type "tuple" ∧ 232 < K.sa)
   (gn : 232 < nsA) (gl : 232 < K.sl)
   (h : ∀ (C ns md : Addr) (t1 t2 t3 : Tok) s', Led b [] s s' [(md, mdO t1 C), (C, clsO w bt ns C tn (K.t 3)), (ns, nsK w K mo t2 t3 md)] → Q (.done (.ret (.ref C))) s')
   : wpAny (model PW w) A (Builtin.«type.__new__» ⟨[.type "type", .str Ks tn, .ref bt, .ref nsA], []⟩) Q E s := by
  have D : Led b [] s s [] := Led.start st
  have gs : 232 < s.heap.objs.size := D.st0.lt W
  have i1 : isSubtype (.type "tuple") (.type "tuple") = pure true := by rw [isSubtype_type]; kernel_rfl
  have i2 : isSubtype (.type "dict") (.type "dict") = pure true := by rw [isSubtype_type]; kernel_rfl
  have i3 : isType (.type "object") = pure true := by rfl
  have i4 : typeOf (.type "object") = pure (.type "type") := by kernel_rfl
  have i5 : isSubtype (.type "type") (.type "type") = pure true := by rw [isSubtype_type]; kernel_rfl
  have i6 : notOverATurnedClass [.type "object"] = pure () := by kernel_rfl
  have i7 : extendedBase [.type "object"] = pure (.type "object") := by kernel_rfl
  have i8 : typeLookup (.type "dict") (Str.ofString "__iter__") = pure (some (.builtin "dict.__iter__")) := by rw [typeLookup_type, builtinLookup_eq_fast]; kernel_rfl
  have Tbt : s.TypeIs (.ref bt) "tuple" := ⟨_, hbt, rfl⟩
  have Tns : s.TypeIs (.ref nsA) "dict" := ⟨_, hns, rfl⟩
  unfold Builtin.«type.__new__»
  refine wpAny_bind (wpAny_of_eq (show asStr? (.str Ks tn) = pure (some Ks) from rfl) ?_)
  (with_reducible (conv => arg 3; whnf))
  refine wpAny_bind (wpAny_isInstance Tbt i1 ?_)
  (with_reducible (conv => arg 3; whnf))
  refine wpAny_ifF rfl ?_
  (with_reducible (conv => arg 3; whnf))
  refine wpAny_bind (wpAny_isInstance Tns i2 ?_)
  (with_reducible (conv => arg 3; whnf))
  refine wpAny_ifF rfl ?_
  (with_reducible (conv => arg 3; whnf))
  refine wpAny_bind (PySem.wpAny_seqItems hbt rfl ?_)
  (with_reducible (conv => arg 3; whnf))
  refine wpAny_ifN (by show ¬ ((1 : Nat) > 2 ^ 20); decide) ?_
  (with_reducible (conv => arg 3; whnf))
  refine wpAny_bind (wpAny_forCons (show _ = [Value.type "object"] from rfl) ?_)
  (with_reducible (conv => arg 3; whnf))
  refine wpAny_bind (wpAny_of_eq i3 (wpAny_ifF rfl ?_))
  refine wpAny_pure ?_
  show wpAny _ _ _ _ _ _
  refine wpAny_forNil rfl ?_
  (with_reducible (conv => arg 3; whnf))
  refine wpAny_bind (wpAny_forCons (show _ = [Value.type "object"] from rfl) ?_)
  (with_reducible (conv => arg 3; whnf))
  refine wpAny_bind (wpAny_of_eq i4 (wpAny_bind (wpAny_of_eq i5 (wpAny_ifT rfl (wpAny_pure ?_)))))
  show wpAny _ _ _ _ _ _
  refine wpAny_forNil rfl ?_
  (with_reducible (conv => arg 3; whnf))
  refine wpAny_ifF rfl ?_
  (with_reducible (conv => arg 3; whnf))
  refine wpAny_bind (wpAny_of_eq (show notOverATurnedClass _ = pure () from i6) ?_)
  refine wpAny_bind (wpAny_of_eq (show extendedBase _ = pure (.type "object") from i7) ?_)
  (with_reducible (conv => arg 3; whnf))
  refine wpAny_ifF (by simpa using (Nat.ne_of_gt (Nat.lt_trans (show sysModules < 232 by decide) gn))) ?_
  (with_reducible (conv => arg 3; whnf))
  refine wpAny_bind (wpAny_dictEntries hns rfl (wpAny_bind (wpAny_specialOf Tns i8 ?_)))
  (with_reducible (conv => arg 3; whnf))
  refine wpAny_ifT (by kernel_rfl) ?_
  refine wpAny_bind (wpAny_pure ?_)
  (with_reducible (conv => arg 3; whnf))
  refine wpAny_bind (wpAny_holding ?_)
  show wpAny _ _ (Slots.read Ks [.type "object"] (ents K qnK mo)) _ _ _
  refine slots_read hA W D hsl fun s1 D1 => ?_
  refine wpAny_bind (led_newObj (data := .dict (ents K qnK mo) 0) D1 (fun ns s2 D2 => ?_) rfl (by show 12 ≤ _; decide))
  (with_reducible (conv => arg 3; whnf))
  refine wpAny_ifF (by kernel_rfl) ?_
  (with_reducible (conv => arg 3; whnf))
  refine wpAny_bind (wpAny_ifF (by kernel_rfl) (wpAny_pure ?_))
  (with_reducible (conv => arg 3; whnf))
  refine wpAny_ifF (by kernel_rfl) ?_
  (with_reducible (conv => arg 3; whnf))
  have q1 : nsLook (Str.ofString "__qualname__") ⟨.type "dict", none, .dict (ents K qnK mo) 0, #[]⟩ = pure (some (.str qnK (K.t 3))) := by kernel_rfl
  refine wpAny_bind (led_nsGet D2 .here q1 ?_)
  (with_reducible (conv => arg 3; whnf))
  refine wpAny_bind (led_nsGet D2 .here q1 ?_)
  (with_reducible (conv => arg 3; whnf))
  refine wpAny_bind (wpAny_of_eq (show asStr? (.str qnK (K.t 3)) = pure (some qnK) from rfl) ?_)
  (with_reducible (conv => arg 3; whnf))
  refine wpAny_bind (wpAny_pure ?_)
  (with_reducible (conv => arg 3; whnf))
  have q2 : nsLook (Str.ofString "__doc__") ⟨.type "dict", none, .dict (ents K qnK mo) 0, #[]⟩ = pure none := by kernel_rfl
  refine wpAny_bind (led_nsGet D2 (.here) q2 ?_)
  (with_reducible (conv => arg 3; whnf))
  refine wpAny_bind (led_alloc (o := ⟨.type "type", none, .cls (cd0 ns qnK), #[]⟩) D2 fun a s3 D3 => ?_)
  (with_reducible (conv => arg 3; whnf))
  refine wpAny_ifT rfl ?_
  refine wpAny_bind (led_slot (sl' := #[some (.ref bt)]) D3 gs .here rfl fun s4 D4 => ?_)
  (with_reducible (conv => arg 3; whnf))
  refine wpAny_bind (led_slot (sl' := #[some (.ref bt), none, some (.str Ks tn)]) D4 gs .here rfl fun s5 D5 => ?_)
  (with_reducible (conv => arg 3; whnf))
  refine wpAny_bind (led_slot (sl' := #[some (.ref bt), none, some (.str Ks tn), some (.str qnK (K.t 3))]) D5 gs .here rfl fun s6 D6 => ?_)
  (with_reducible (conv => arg 3; whnf))
  refine wpAny_bind (led_nsDel (o' := ⟨.type "dict", none, .dict (ents2 K mo) 1, #[]⟩) D6 gs (.there .here) (by kernel_rfl) fun s7 D7 => ?_)
  have q3 : nsLook (Str.ofString "__new__") ⟨.type "dict", none, .dict (ents2 K mo) 1, #[]⟩ = pure none := by kernel_rfl
  have q4 : nsLook (Str.ofString "__init_subclass__") ⟨.type "dict", none, .dict (ents2 K mo) 1, #[]⟩ = pure none := by kernel_rfl
  have q5 : nsLook (Str.ofString "__class_getitem__") ⟨.type "dict", none, .dict (ents2 K mo) 1, #[]⟩ = pure none := by kernel_rfl
  have q6 : nsLook (Str.ofString "__classcell__") ⟨.type "dict", none, .dict (ents2 K mo) 1, #[]⟩ = pure none := by kernel_rfl
  have q7 : nsLook (Str.ofString "__classdictcell__") ⟨.type "dict", none, .dict (ents2 K mo) 1, #[]⟩ = pure none := by kernel_rfl
  refine wpAny_bind (led_nsGet D7 (.there .here) q3 ?_)
  (with_reducible (conv => arg 3; whnf))
  refine wpAny_bind (wpAny_forCons rfl (wpAny_bind (led_nsGet D7 (.there .here) q4 (wpAny_pure ?_))))
  show wpAny _ _ _ _ _ _
  refine wpAny_forCons rfl (wpAny_bind (led_nsGet D7 (.there .here) q5 (wpAny_pure ?_)))
  show wpAny _ _ _ _ _ _
  refine wpAny_forNil rfl ?_
  (with_reducible (conv => arg 3; whnf))
  refine wpAny_bind (led_nsGet D7 (.there .here) q6 ?_)
  (with_reducible (conv => arg 3; whnf))
  refine wpAny_bind (led_nsGet D7 (.there .here) q7 ?_)
  (with_reducible (conv => arg 3; whnf))
  refine wpAny_bind (wpAny_of_eq (show mroHook? (.type "type") = pure none by kernel_rfl) ?_)
  (with_reducible (conv => arg 3; whnf))
  refine wpAny_bind (wpAny_of_eq (show linearize [Value.type "object"] mroOf = pure [.type "object"] by kernel_rfl) (wpAny_bind (wpAny_pure ?_)))
  (with_reducible (conv => arg 3; whnf))
  rw [show List.filter (fun x => x != Value.ref a) [Value.ref a, Value.type "object"] = [Value.type "object"] by simp]
  refine wpAny_bind (wpAny_of_eq (a := false) (by kernel_rfl) ?_)
  refine wpAny_bind (led_cls (cd' := cd1 ns qnK a) D7 gs .here (by kernel_rfl) rfl fun s8 D8 => ?_)
  refine wpAny_bind (wpAny_of_eq (show Bind.madeBy (.type "object") = pure (some "object.__new__") by kernel_rfl) ?_)
  refine wpAny_bind (led_slot (sl' := #[some (.ref bt), none, some (.str Ks tn), some (.str qnK (K.t 3)), some (.builtin "object.__new__")]) D8 gs .here rfl fun s9 D9 => ?_)
  have q8 : builtinOwn "object" (Str.ofString "__new__") = some (.builtin "object.__new__") := by rw [builtinOwn_eq_fast]; kernel_rfl
  refine wpAny_bind ?_
  · unfold Bind.refreshMaker
    refine wpAny_bind (led_slotAt D9 .here ?_)
    (with_reducible (conv => arg 3; whnf))
    refine wpAny_ifF rfl ?_
    (with_reducible (conv => arg 3; whnf))
    refine wpAny_bind (led_lookup0 D9 .here rfl (.there .here) q3 q8 ?_)
    (with_reducible (conv => arg 3; whnf))
    refine wpAny_ifF (by kernel_rfl) (wpAny_pure ?_)
    refine wpAny_bind ?_
    show wpAny _ _ (Slots.install (.ref a) ns [Value.type "object"] slotPlan) _ _ _
    unfold Slots.install
    (with_reducible (conv => arg 3; whnf))
    refine wpAny_bind (wpAny_forCons (show slotPlan.names = [Str.ofString "obj"] from rfl) ?_)
    (with_reducible (conv => arg 3; whnf))
    have q9 : nsLook (Str.ofString "obj") ⟨.type "dict", none, .dict (ents2 K mo) 1, #[]⟩ = pure none := by kernel_rfl
    refine wpAny_bind (led_nsGet D9 (.there .here) q9 (wpAny_ifT rfl ?_))
    refine wpAny_bind (led_str D9 fun t1 s10 D10 => ?_)
    refine wpAny_bind (led_newObj (data := .fields #[.str (Str.ofString "obj") t1, .ref a, .builtin "proto.slot", .builtin "proto.slot#set", rawInt 0]) D10 (fun md s11 D11 => ?_) rfl (by show 5 ≤ _; decide))
    refine wpAny_bind (led_nsSetV (o' := fun t => nsO ((ents2 K mo).push (eO w t md)) 2) D11 gs (fun t => .there (.there .here)) (fun t => by kernel_rfl) (fun t2 s12 D12 => wpAny_pure ?_) (by show 11 ≤ _; decide))
    show wpAny _ _ _ _ _ _
    refine wpAny_forNil rfl ?_
    (with_reducible (conv => arg 3; whnf))
    refine wpAny_bind (wpAny_forCons rfl (wpAny_bind (wpAny_of_eq (show Slots.givesDict (.type "object") = pure false by kernel_rfl) (wpAny_ifF rfl (wpAny_pure ?_)))))
    show wpAny _ _ _ _ _ _
    refine wpAny_forNil rfl ?_
    (with_reducible (conv => arg 3; whnf))
    refine wpAny_ifN (by decide) ?_
    (with_reducible (conv => arg 3; whnf))
    refine led_cls (cd' := cd2 ns qnK a) D12 gs (.there .here) rfl rfl fun s13 D13 => ?_
    refine wpAny_bind (wpAny_of_eq (show Slots.givesWeak (.type "object") = pure false by kernel_rfl) ?_)
    refine wpAny_bind (led_slot (sl' := #[some (.ref bt), none, some (.str Ks tn), some (.str qnK (K.t 3)), some (.builtin "object.__new__"), some (.bool false)]) D13 gs (.there .here) rfl fun s14 D14 => ?_)
    (with_reducible (conv => arg 3; whnf))
    refine wpAny_ifF rfl ?_
    (with_reducible (conv => arg 3; whnf))
    refine wpAny_ifF rfl ?_
    (with_reducible (conv => arg 3; whnf))
    have q10 : nsLook (Str.ofString "__doc__") (nsO ((ents2 K mo).push (eO w t2 md)) 2) = pure none := by kernel_rfl
    refine wpAny_bind (led_nsGet D14 (.there (.there .here)) q10 ?_)
    (with_reducible (conv => arg 3; whnf))
    refine wpAny_ifT rfl ?_
    refine wpAny_bind (led_nsSet (o' := fun t => nsO (((ents2 K mo).push (eO w t2 md)).push (eD w t)) 3) D14 gs (fun t => .there (.there .here)) (fun t => by kernel_rfl) fun t3 s15 D15 => ?_)
    (with_reducible (conv => arg 3; whnf))
    have q11 : nsLook (Str.ofString "__eq__") (nsO (((ents2 K mo).push (eO w t2 md)).push (eD w t3)) 3) = pure (some (.ref (K.f 3))) := by kernel_rfl
    refine wpAny_bind (led_nsGet D15 (.there (.there .here)) q11 ?_)
    (with_reducible (conv => arg 3; whnf))
    refine wpAny_ifT rfl ?_
    have q12 : nsLook (Str.ofString "__hash__") (nsO (((ents2 K mo).push (eO w t2 md)).push (eD w t3)) 3) = pure (some .none) := by kernel_rfl
    refine wpAny_bind (led_nsGet D15 (.there (.there .here)) q12 ?_)
    refine wpAny_ifF rfl ?_
    (with_reducible (conv => arg 3; whnf))
    refine wpAny_bind (wpAny_forCons (show _ = [Value.type "object"] from rfl) ?_)
    (with_reducible (conv => arg 3; whnf))
    refine wpAny_bind (wpAny_of_eq (show noteSubclassOfBuiltin "object" a = pure () by kernel_rfl) (wpAny_pure ?_))
    show wpAny _ _ _ _ _ _
    refine wpAny_forNil rfl ?_
    (with_reducible (conv => arg 3; whnf))
    refine wpAny_bind (wpAny_tryCatch (wpAny_holding ?_))
    (with_reducible (conv => arg 3; whnf))
    refine wpAny_bind (wpAny_dictEntries (D15.get (.there (.there .here))) rfl ?_)
    refine wpAny_bind (wpAny_forArr rfl ?_)
    iterate 13
      refine wpAny_forCons rfl (wpAny_bind (wpAny_of_eq (show asStr? (.str _ _) = pure (some _) from rfl) (wpAny_ifF rfl (wpAny_pure ?_))))
      show wpAny _ _ _ _ _ _
    refine wpAny_forNil rfl ?_
    (with_reducible (conv => arg 3; whnf))
    refine wpAny_ifF rfl ?_
    (with_reducible (conv => arg 3; whnf))
    refine wpAny_bind (wpAny_dictEntries (D15.get (.there (.there .here))) rfl ?_)
    refine wpAny_bind (wpAny_forArr rfl ?_)
    have ty : ∀ {T : String} {v : Value}, s15.TypeIs v T → T ∈ ["str", "int", "list", "NoneType", "function", "tuple", "member_descriptor"] → ∀ {R : Option Value → Shared → Prop} {E' : Value → Shared → Prop}, R none s15 → wpAny (model PW w) A (specialOf v (Str.ofString "__set_name__")) R E' s15 := fun hT hm _ _ hr => wpAny_specialOf hT (noSet _ hm) hr
    have tf : ∀ i, i < 6 → s15.TypeIs (.ref (K.f i)) "function" := fun i hi => let ⟨o, e, c, g⟩ := hf i hi; ⟨o, D15.old e g List.not_mem_nil, c⟩
    have ta : s15.TypeIs (.ref K.sa) "tuple" := let ⟨o, e, c, g⟩ := hsa; ⟨o, D15.old e g List.not_mem_nil, c⟩
    have tl : s15.TypeIs (.ref K.sl) "list" := ⟨_, D15.old hsl gl List.not_mem_nil, rfl⟩
    have tm : s15.TypeIs (.ref md) "member_descriptor" := ⟨_, D15.get .here, rfl⟩
    refine wpAny_forCons rfl (wpAny_ifF rfl (wpAny_bind (ty (v := .str _ _) (T := "str") rfl (by decide) (wpAny_pure ?_))))
    show wpAny _ _ _ _ _ _
    refine wpAny_forCons rfl (wpAny_ifF rfl (wpAny_bind (ty (v := .int _ _) (T := "int") rfl (by decide) (wpAny_pure ?_))))
    show wpAny _ _ _ _ _ _
    refine wpAny_forCons rfl (wpAny_ifF rfl (wpAny_bind (ty tl (by decide) (wpAny_pure ?_))))
    show wpAny _ _ _ _ _ _
    refine wpAny_forCons rfl (wpAny_ifF rfl (wpAny_bind (ty (tf 0 (by decide)) (by decide) (wpAny_pure ?_))))
    show wpAny _ _ _ _ _ _
    refine wpAny_forCons rfl (wpAny_ifF rfl (wpAny_bind (ty (tf 1 (by decide)) (by decide) (wpAny_pure ?_))))
    show wpAny _ _ _ _ _ _
    refine wpAny_forCons rfl (wpAny_ifF rfl (wpAny_bind (ty (tf 2 (by decide)) (by decide) (wpAny_pure ?_))))
    show wpAny _ _ _ _ _ _
    refine wpAny_forCons rfl (wpAny_ifF rfl (wpAny_bind (ty (tf 3 (by decide)) (by decide) (wpAny_pure ?_))))
    show wpAny _ _ _ _ _ _
    refine wpAny_forCons rfl (wpAny_ifF rfl (wpAny_bind (ty (tf 4 (by decide)) (by decide) (wpAny_pure ?_))))
    show wpAny _ _ _ _ _ _
    refine wpAny_forCons rfl (wpAny_ifF rfl (wpAny_bind (ty (tf 5 (by decide)) (by decide) (wpAny_pure ?_))))
    show wpAny _ _ _ _ _ _
    refine wpAny_forCons rfl (wpAny_ifF rfl (wpAny_bind (ty (v := .none) (T := "NoneType") rfl (by decide) (wpAny_pure ?_))))
    show wpAny _ _ _ _ _ _
    refine wpAny_forCons rfl (wpAny_ifF rfl (wpAny_bind (ty ta (by decide) (wpAny_pure ?_))))
    show wpAny _ _ _ _ _ _
    refine wpAny_forCons rfl (wpAny_ifF rfl (wpAny_bind (ty tm (by decide) (wpAny_pure ?_))))
    show wpAny _ _ _ _ _ _
    refine wpAny_forCons rfl (wpAny_ifF rfl (wpAny_bind (ty (v := .none) (T := "NoneType") rfl (by decide) (wpAny_pure ?_))))
    show wpAny _ _ _ _ _ _
    refine wpAny_forNil rfl ?_
    exact cls_super W D15 (.there .here) rfl rfl fun s16 D16 => wpAny_pure (h _ _ _ _ _ _ _ D16)
end
end Mine
end -- C2
section -- C3
/-! C3: type(name, bases, ns) -/
set_option maxRecDepth 100000
namespace Mine
open PySem PySem.W PySem.Calls PyProof.Rows Builtin
set_option maxHeartbeats 2000000

section
variable {w : World} {A : Around} {E : Value → Shared → Prop} {s s₀ : Shared} {b : Heap} {mg mb : Str → Option Value} {bm : Addr} {ob : Obj} {L : LL}

theorem slot_type_init : Slot "type" "__init__" "type.__init__" := .of (owner := "type") (n := "__init__") (by rw [typeLookup_type, builtinLookup_eq_fast]; kernel_rfl) (by decide +kernel) (by decide +kernel) (by decide +kernel)
  (by first | exact .inl (by decide +kernel) | exact .inr (by decide +kernel)) (by rw [isSubtype_type]; kernel_rfl)
theorem entry_type_init : entryFor table "type.__init__" = some Builtin.«type.__init__» := entryFor_of_tree (by kernel_rfl)
theorem entry_type_new : entryFor table "type.__new__" = some Builtin.«type.__new__» := entryFor_of_tree (by kernel_rfl)
theorem own_type : Manifest.owners.lookup (String.ofList ['e', 'p', 'y', 't'].reverse) = some Manifest.sig_type := by kernel_rfl
theorem args_type_init (c a b d : Value) : argsOk "type.__init__" ⟨[c, a, b, d], []⟩ := by
  unfold argsOk; rw [signature?_of (id := "type.__init__") (n := ['_', '_', 't', 'i', 'n', 'i', '_', '_']) (o := ['e', 'p', 'y', 't']) (by kernel_rfl) own_type]; kernel_rfl
theorem newCall_type (a : Str) (t : Tok) (b c : Addr) : checkBuiltinCall "type.__new__" ⟨[.type "type", .str a t, .ref b, .ref c], []⟩ = pure () := by kernel_rfl
theorem typeCall_type (a : Str) (t : Tok) (b c : Addr) : checkTypeCall "type" ⟨[.str a t, .ref b, .ref c], []⟩ = pure () := by kernel_rfl
theorem quiet_type_new (a : Args) : (Code.builtin "type.__new__" a).quiet = true := Code.quiet_builtin _ (by decide +kernel)
theorem weight_type_new : ∀ a : Args, (Code.builtin "type.__new__" a).weight = 0 := fun _ => rfl

theorem call_type_K {mo : Str} {K : KV} {t0 tn : Tok} {n : Nat} {bt nsA : Addr} {Q : Value → Shared → Prop} (hA : A.handled = none) (W : WW w b mg mb bm ob) (st : St0 b s)
   (hbt : s.heap.get? bt = some ⟨.type "tuple", none, .seq #[.type "object"] 0, #[]⟩)
   (hns : s.heap.get? nsA = some ⟨.type "dict", none, .dict (ents K qnK mo) 12, #[]⟩)
   (hsl : s.heap.get? K.sl = some ⟨.type "list", none, .seq #[.str (Str.ofString "obj") t0] n, #[]⟩)
   (hf : ∀ i, i < 6 → ∃ o, s.heap.get? (K.f i) = some o ∧ o.cls = .type "function" ∧ 232 < K.f i) (hsa : ∃ o, s.heap.get? K.sa = some o ∧ o.cls = .type "tuple" ∧ 232 < K.sa)
   (gn : 232 < nsA) (gl : 232 < K.sl)
   (h : ∀ (C ns md : Addr) (t1 t2 t3 : Tok) s', Led b [] s s' [(md, mdO t1 C), (C, clsO w bt ns C tn (K.t 3)), (ns, nsK w K mo t2 t3 md)] → Q (.ref C) s')
   : wpAny (model PW w) A (call (.type "type") [.str Ks tn, .ref bt, .ref nsA]) Q E s := by
  refine wpAny_call (codeAny_of_tree ?_)
  show wpAny _ _ (callAny (.type "type") _) _ _ _
  refine wpAny_pure ⟨Code.quiet_builtin _ (by decide +kernel), codeAny_builtin F.entry_type_call ?_⟩
  rw [Around.under_plain (weight_type_call_type "type" [.str Ks tn, .ref bt, .ref nsA] []) rfl]
  unfold Builtin.«type.__call__»
  (with_reducible (conv => arg 3; whnf))
  refine wpAny_ifT (by kernel_rfl) (wpAny_ifF rfl (wpAny_ifF rfl ?_))
  (with_reducible (conv => arg 3; whnf))
  refine wpAny_ifF (by kernel_rfl) ?_
  (with_reducible (conv => arg 3; whnf))
  refine wpAny_bind (wpAny_of_eq (typeCall_type _ _ _ _) ?_)
  (with_reducible (conv => arg 3; whnf))
  refine wpAny_bind (wpAny_of_eq (show mroOf (.type "type") = pure [.type "type", .type "object"] by kernel_rfl) ?_)
  (with_reducible (conv => arg 3; whnf))
  refine wpAny_ifF rfl ?_
  (with_reducible (conv => arg 3; whnf))
  refine wpAny_bind (wpAny_of_eq (show Bind.madeBy (.type "type") = pure (some "type.__new__") by kernel_rfl) ?_)
  (with_reducible (conv => arg 3; whnf))
  refine wpAny_bind (wpAny_pure ?_)
  (with_reducible (conv => arg 3; whnf))
  have pn : plainId "type.__new__" = true := by decide +kernel
  refine wpAny_bind (wpAny_holding (wpAny_call (codeAny_of_tree ?_)))
  show wpAny _ _ (do checkBuiltinCall "type.__new__" ⟨[.type "type", .str Ks tn, .ref bt, .ref nsA], []⟩; again (.builtin "type.__new__" ⟨[.type "type", .str Ks tn, .ref bt, .ref nsA], []⟩)) _ _ s
  refine wpAny_bind (wpAny_of_eq (newCall_type _ _ _ _) (wpAny_pure ⟨quiet_type_new _, codeAny_builtin entry_type_new ?_⟩))
  rw [Around.under_plainId pn _]
  refine type_new hA W st hbt hns hsl hf hsa gn gl fun C ns md t1 t2 t3 s1 D1 => ?_
  show wpAny _ _ _ _ _ _
  have i5 : isSubtype (.type "type") (.type "type") = pure true := by rw [isSubtype_type]; kernel_rfl
  have hT : s1.TypeIs (.ref C) "type" := ⟨_, D1.get (.there .here), rfl⟩
  refine wpAny_bind (wpAny_isInstance hT i5 ?_)
  refine wpAny_ifF rfl ?_
  have hli := slot_type_init.lookup
  have hbi := slot_type_init.bind (.ref C)
  refine wpAny_bind (wpAny_holding ?_)
  unfold callSpecial?
  refine wpAny_bind (wpAny_specialOf hT hli (wpAny_holding ?_))
  refine wpAny_bind (wpAny_of_eq hbi ?_)
  (with_reducible (conv => arg 3; whnf))
  refine wpAny_bind (wpAny_call_entry slot_type_init hT entry_type_init ?_ (args_type_init _ _ _ _))
  unfold Builtin.«type.__init__»
  (with_reducible (conv => arg 3; whnf))
  refine wpAny_ifF rfl ?_
  (with_reducible (conv => arg 3; whnf))
  refine wpAny_ifF rfl ?_
  refine wpAny_pure ⟨_, rfl, wpAny_pure ?_⟩
  (with_reducible (conv => arg 3; whnf))
  refine wpAny_ifF rfl (wpAny_pure ?_)
  exact h _ _ _ _ _ _ _ D1
end
end Mine
end -- C3
section -- C4
/-! C4: the steps of the class's body -/
set_option maxRecDepth 100000
namespace Mine
open PySem PySem.W PySem.Calls PyProof.Rows Builtin
set_option maxHeartbeats 2000000

section
variable {w : World} {A : Around} {E : Value → Shared → Prop} {s s₀ : Shared} {b : Heap} {mg mb : Str → Option Value} {bm : Addr} {ob : Obj} {L : LL} {X : List Addr} {env : Env}

theorem among_snoc {pos pos' : Pos} {c v : Value} : ∀ {l : List Value}, TriplesOk l → codeAmong pos' l = some v → codeAmong pos' (l ++ [rawInt pos.line, rawInt pos.col, c]) = some v
  | [], _, h => by simp [codeAmong] at h
  | .int a t :: .int b u :: x :: rest, ht, h => by
    simp only [codeAmong, List.cons_append] at h ⊢
    split
    · rename_i hc
      rw [if_pos hc] at h
      exact h
    · rename_i hc
      rw [if_neg hc] at h
      exact among_snoc (l := rest) (by simpa [TriplesOk] using ht) h
theorem TQ.trip {h : Heap} {qf} {l : List Value} (x : TQ h qf l) : TriplesOk l := by
  induction x with
  | nil => trivial
  | cons _ _ _ _ ih => simp only [TriplesOk]; exact ih
theorem TQ.snoc {h : Heap} {qf} {l c : Nat} {a : Addr} {q : Str} (hq : qf.lookup ((l : Int), (c : Int)) = some q) (ga : 232 < a) (r : h.CodeRec (.ref a) q) {l' : List Value} (x : TQ h qf l') : TQ h qf (l' ++ [rawInt l, rawInt c, .ref a]) := by
  induction x with
  | nil => exact .cons hq ga r .nil
  | cons e g r' _ ih => exact .cons e g r' ih
theorem TQ.find {h : Heap} {qf} {pos : Pos} {v : Value} {l : List Value} (x : TQ h qf l) (e : codeAmong pos l = some v) : ∃ a q, v = .ref a ∧ qf.lookup ((pos.line : Int), (pos.col : Int)) = some q ∧ 232 < a ∧ h.CodeRec (.ref a) q := by
  induction x with
  | nil => simp [codeAmong] at e
  | cons e1 g r _ ih =>
    simp only [codeAmong] at e
    split at e
    · rename_i hc
      cases e
      simp only [Bool.and_eq_true, beq_iff_eq] at hc
      obtain ⟨rfl, rfl⟩ := hc
      exact ⟨_, _, rfl, e1, g, r⟩
    · exact ih e

theorem TQ.no {h : Heap} {qf} {l : List Value} (x : TQ h qf l) (q t) : l[1]? ≠ some (.str q t) := fun e => by
  cases x with
  | nil => simp at e
  | cons => simp at e
/-- the table of K's code, while the body runs -/
structure KT (h : Heap) (kc P : Addr) (ps : Array Value) : Prop where
  hd : CodeHd h kc P
  rc : ∃ q, h.CodeRec (.ref kc) q
  tab : h.get? P = some (tabObj ps)
  tq : TQ h qK ps.toList
  gc : 232 < kc
  gP : 232 < P
theorem KT.tabs {h : Heap} {kc P ps} (x : KT h kc P ps) : KTab h kc P ps := ⟨x.gc, x.gP, x.hd, x.rc, x.tab, x.tq⟩
theorem KT.mv {h h' : Heap} {kc P ps} (x : KT h kc P ps) (hk : ∀ a o, codey o = true → h.get? a = some o → h'.get? a = some o) : KT h' kc P ps := by
  obtain ⟨g1, g2, hd, rc, t, tq⟩ := x.tabs.mv hk
  exact ⟨hd, rc, t, tq, g1, g2⟩
theorem KT.keeps {h h' : Heap} {kc P ps} (x : KT h kc P ps) (hk : ∀ a o, h.get? a = some o → h'.get? a = some o) : KT h' kc P ps := x.mv fun a o _ e => hk a o e
/-- the ledger beside K's table -/
structure LedK (b : Heap) (P : Addr) (s₀ s : Shared) (L : LL) (kc : Addr) (ps : Array Value) : Prop where
  d : Led b [184, P] s₀ s L
  ne : ∀ p ∈ L, p.1 ≠ P
  k : KT s.heap kc P ps
  t : s.heap.get? 184 = some (tabObj #[rawInt 112, rawInt 4, .ref kc])
theorem LedK.ltP {b P s₀ s L kc ps} (D : LedK b P s₀ s L kc ps) : P < s.heap.objs.size := Heap.lt_size D.k.tab
theorem LedK.toks {b P s₀ s L kc ps} (D : LedK b P s₀ s L kc ps) {t : Nat} : LedK b P s₀ { s with toks := t } L kc ps := ⟨D.d.toks, D.ne, D.k, D.t⟩
theorem LedK.push {b P s₀ s L kc ps} {o : Obj} (D : LedK b P s₀ s L kc ps) (hf : o.isFreed = false) : LedK b P s₀ { s with heap := s.heap.push o } ((s.heap.objs.size, o) :: L) kc ps :=
  ⟨D.d.push hf, fun p hp => by
    rcases List.mem_cons.mp hp with rfl | hp
    · exact Nat.ne_of_gt D.ltP
    · exact D.ne p hp, D.k.keeps fun a o e => Heap.get?_push_of_some _ e, Heap.get?_push_of_some _ D.t⟩
theorem LedK.upd {b P s₀ s L L' kc ps a o o'} {f : Obj → Obj} (D : LedK b P s₀ s L kc ps) (u : Upd a o o' L L') (e : f o = o') (hf : o'.isFreed = false) (hn : codey o = false) (gs : 232 < s₀.heap.objs.size) : LedK b P s₀ { s with heap := s.heap.update a f } L' kc ps :=
  ⟨D.d.upd u e hf gs, fun p hp => by
    rcases u.mem D.d.nd p hp with rfl | ⟨h1, _⟩
    · exact (show a ≠ P from D.ne (a, o) u.at.mem)
    · exact D.ne p h1, D.k.mv fun c o₁ hc e₁ => (Heap.get?_update_ne _ _ _ _ (fun q => by
      rw [q, D.d.get u.at] at e₁
      cases e₁
      rw [hn] at hc
      cases hc)).trans e₁, (Heap.get?_update_ne _ _ _ _ (fun q => by
      have h1 : s₀.heap.objs.size ≤ a := D.d.new _ u.at.mem
      have h2 := Nat.lt_of_lt_of_le gs h1
      rw [← q] at h2
      exact absurd h2 (by decide))).trans D.t⟩
noncomputable def fnO (name qual : Str) (params : Arguments) (body : List Stmt) (scope : Scope) (clos : List (Str × Addr)) (doc pm : Value) (c' : Addr) (ctv : Value) : Obj := ⟨.type "function", none, .func (fnX name qual params body scope clos .none .none doc pm none (.ref c') ctv), #[]⟩
/-- the namespace's object -/
noncomputable abbrev nsB (es : Array DictEntry) (n : Nat) : Obj := ⟨.type "dict", none, .dict es n, #[]⟩
noncomputable def en (w : World) (x : Str) (t : Tok) (v : Value) : DictEntry := ⟨PyData.keyHash w.params x, .str x t, v⟩
theorem upd_at {a : Addr} {L2 : LL} {o o' : Obj} : ∀ (L1 : LL), Upd a o o' (L1 ++ (a, o) :: L2) (L1 ++ (a, o') :: L2)
  | [] => .here
  | _ :: l => .there (upd_at l)
/-- a store into the class's namespace -/
theorem cls_store {x : Str} {v : Value} {a kc P : Addr} {ps : Array Value} {es : Array DictEntry} {es' : Tok → Array DictEntry} {n n' : Nat} {Q : Unit → Shared → Prop} {L1 L2 : LL} (D : LedK b P s₀ s (L1 ++ (a, nsB es n) :: L2) kc ps) (gs : 232 < s₀.heap.objs.size) (hk : env.scope.kind = .class) (hkd : env.kindOf x = some .local ∨ (env.kindOf x = none ∧ compilersOwnNames.contains x = true)) (hl : env.locals = a)
    (e : ∀ t, Obj.putName x (PyData.keyHash w.params x) (.str x t) v (nsB es n) = nsB (es' t) n') (hr : aRefKeyMayBeTheName x es = false)
    (h : ∀ t s', LedK b P s₀ s' (L1 ++ (a, nsB (es' t) n') :: L2) kc ps → Q () s') :
    wpAny (model PW w) A (storeName env x v) Q E s := by
  have u := fun o o' => upd_at (a := a) (L2 := L2) (o := o) (o' := o') L1
  have key : wpAny (model PW w) A (localSet env x v) Q E s := by
    unfold localSet
    rw [hl]
    refine wpAny_bind (wpAny_load (D.d.get (u _ (nsB es n)).at) ?_)
    refine wpAny_ifT rfl ?_
    unfold nsSet strHash
    refine wpAny_bind (wpAny_bind (wpAny_askSetting (wpAny_pure ?_)))
    refine wpAny_bind (wpAny_mkText ?_)
    have D1 := D.toks (t := s.toks + 1)
    refine wpAny_bind (wpAny_loadPart (D1.d.get (u _ (nsB es n)).at) ?_)
    show wpAny _ _ (if aRefKeyMayBeTheName x es = true then _ else _) _ _ _
    refine wpAny_ifF hr ?_
    exact wpAny_updatePart (D1.d.get (u _ (nsB es n)).at) (h _ _ (D1.upd (u _ _) (e s.toks) rfl rfl gs))
  have hb : env.blockKind = .class := by unfold Env.blockKind; rw [hk]; rfl
  unfold storeName
  rw [hb, hk]
  rcases hkd with q | ⟨q, qc⟩
  · rw [q]
    exact key
  · rw [q, qc]
    exact key
theorem Led.stepX {P : Addr} {s' : Shared} (D : Led b X s₀ s L) (N : Nx0 b [P] s s') (hk : ∀ a o, a ≠ P → s.heap.get? a = some o → s'.heap.get? a = some o) (hP : P ∈ X) (hL : ∀ p ∈ L, p.1 ≠ P) : Led b X s₀ s' L :=
  ⟨D.st0, D.nx.tr (N.mono fun a ha => .inl (by rw [List.mem_singleton.mp ha]; exact hP)), fun a o h e => hk _ _ (fun q => h (q ▸ hP)) (D.al a o h e), fun p hp => hk _ _ (hL p hp) (D.at_ p hp), D.new, D.nd⟩
theorem St0.bat {P : Addr} {ps : Array Value} (st : St0 b s) (W : WW w b mg mb bm ob) (hP : s.heap.get? P = some (tabObj ps)) : s.heap.BuiltinsAt mg P := by
  have M := st.mod W
  refine ⟨bm, ob, M.name, M.ne, fun q => ?_, fun q => ?_, M.obj, M.cls, M.dict, M.data⟩
  · obtain ⟨o, es, ep, e, hd, _⟩ := M.ns
    have := M.obj
    rw [q, e] at this
    cases this
    rw [M.data] at hd
    cases hd
  · have := M.obj
    rw [q, hP] at this
    cases this
    have := M.data
    cases this
/-- one def -/
theorem mk_def {name qual : Str} {params : Arguments} {body : List Stmt} {scope : Scope} {clos : List (Str × Addr)} {pos : Pos} {firstLine : Nat} {kc P : Addr} {ps : Array Value} {Q : Value → Shared → Prop} (W : WW w b mg mb bm ob)
    (D₀ : LedK b P s₀ s L kc ps) (fP : b.get? P = none ∨ Full ps) (hq : qK.lookup ((pos.line : Int), (pos.col : Int)) = some qual) (hcl : closureFor scope env = pure clos) (hge : env.globals = mainGlobals) (hcode : env.code = .ref kc)
    (h : ∀ f ps' s' doc pm c' ctv, LedK b P s₀ s' ((f, fnO name qual params body scope clos doc pm c' ctv) :: L) kc ps' → codeAmong pos ps'.toList = some (.ref c') → (∀ pos' v, codeAmong pos' ps.toList = some v → codeAmong pos' ps'.toList = some v) → ((codeAmong pos ps.toList).isSome = true → ps' = ps) → Q (.ref f) s') :
    wpAny (model PW w) A (makeFunction name qual params (.stmts body) scope env [] [] [] pos firstLine) Q E s := by
  have D := D₀.d
  have hPL := D₀.ne
  have k := D₀.k
  have gs : 232 < s₀.heap.objs.size := D.st0.lt W
  have hB := D.st.bat W k.tab
  have hgP : mainGlobals ≠ P := fun q => absurd k.gP (by rw [← q]; decide)
  have hPs : P < s.heap.objs.size := Heap.lt_size k.tab
  cases hc : codeAmong pos ps.toList with
  | some cv =>
    refine makeFunction_hit (mg := mg) hcl hge (D.st.mod W).ns hcode k.hd k.tab k.tq.trip hc hB fun ctv doc h' tk hk hsz => ?_
    have D1 : Led b [184, P] s₀ { s with heap := h', toks := tk } L := D.step (Nx0.all D.st hk rfl rfl rfl hsz) hk
    have D2 := D1.push (o := { cls := .type "function", data := .func (fnX name qual params body scope clos .none .none doc ((mg "__name__").getD .none) none cv ctv) }) rfl
    obtain ⟨c', q, rfl, e1, gc, r⟩ := k.tq.find hc
    rw [hq] at e1; cases e1
    have up : ∀ a o, s.heap.get? a = some o → (h'.push { cls := .type "function", data := .func (fnX name qual params body scope clos .none .none doc ((mg "__name__").getD .none) none (.ref c') ctv) }).get? a = some o := fun a o e => Heap.get?_push_of_some _ (hk _ _ e)
    refine h h'.objs.size ps _ _ _ c' _ ⟨D2, (fun p hp => ?_), (k.keeps up), up _ _ D₀.t⟩ hc (fun _ _ e => e) (fun _ => rfl)
    rcases List.mem_cons.mp hp with rfl | hp
    · exact fun q => absurd hPs (by rw [← (show h'.objs.size = P from q)]; exact Nat.not_lt.mpr hsz)
    · exact hPL p hp
  | none =>
    have fP' : b.get? P = none := fP.resolve_right fun F => by
      have := F pos (by rw [hq]; rfl)
      rw [hc] at this; cases this
    refine makeFunction_K (mg := mg) hcl hge (D.st.mod W).ns hcode k.hd k.tab k.tq.trip hc hgP hB fun c' ctv doc h' tk hx hge' hlt hrec htb => ?_
    have hsz : s.heap.objs.size ≤ h'.objs.size := Nat.le_of_lt (Nat.lt_of_le_of_lt hge' hlt)
    have gc' : 232 < c' := Nat.lt_of_lt_of_le (D.st.lt W) hge'
    have N : Nx0 b [P] s { s with heap := h', toks := tk } := ⟨⟨fun a o e => hx a o (fun q => by rw [q, fP'] at e; cases e) (D.st.ext a o e), fun T hT => let ⟨ps, e, r⟩ := D.st.tab T hT; ⟨ps, hx _ _ (fun q => notab_of k.gP (q ▸ hT)) e, r⟩, D.st.bare⟩,
      fun a o _ ha e => hx a o (fun q => ha (List.mem_singleton.mpr q)) e, hsz, rfl, rfl⟩
    have D1 : Led b [184, P] s₀ { s with heap := h', toks := tk } L := D.stepX N hx (by simp) hPL
    have D2 := D1.push (o := fnMade name qual params body scope clos doc ((mg "__name__").getD .none) c' ctv) rfl
    have hcP : c' ≠ P := Nat.ne_of_gt (Nat.lt_of_lt_of_le hPs hge')
    have up : ∀ a o, a ≠ P → s.heap.get? a = some o → (h'.push (fnMade name qual params body scope clos doc ((mg "__name__").getD .none) c' ctv)).get? a = some o := fun a o ha e => Heap.get?_push_of_some _ (hx _ _ ha e)
    have hkcP : kc ≠ P := by obtain ⟨o, vs, file, tf, flags, tg, inF, text, tt, e1, e2, e3, e4, r1, r2, r3, r4, r5, r6⟩ := k.hd; exact r6
    have rec' : (h'.push (fnMade name qual params body scope clos doc ((mg "__name__").getD .none) c' ctv)).CodeRec (.ref c') qual := hrec.push _
    have el : (ps ++ #[rawInt pos.line, rawInt pos.col, Value.ref c']).toList = ps.toList ++ [rawInt pos.line, rawInt pos.col, .ref c'] := by simp
    have tq1 : ∀ l : List Value, TQ s.heap qK l → TQ (h'.push (fnMade name qual params body scope clos doc ((mg "__name__").getD .none) c' ctv)) qK l := fun l x => x.mono fun a q g r => by
        obtain ⟨c₂, o, vs, t, e', g', d, r⟩ := r
        cases e'
        refine ⟨_, o, vs, t, rfl, up _ _ (fun q => ?_) g', d, r⟩
        rw [q, k.tab] at g'
        cases g'
        cases d
        exact k.tq.no _ _ (by simpa using r)
    have hrc : ∃ q, (h'.push (fnMade name qual params body scope clos doc ((mg "__name__").getD .none) c' ctv)).CodeRec (.ref kc) q := by
      obtain ⟨q, c₂, o, vs, t, e', g', d, r⟩ := k.rc
      cases e'
      exact ⟨q, _, o, vs, t, rfl, up _ _ hkcP g', d, r⟩
    refine h h'.objs.size _ _ _ _ c' _ ⟨D2, (fun p hp => ?_), ⟨?_, hrc, Heap.get?_push_of_some _ htb, ?_, k.gc, k.gP⟩, up _ _ (fun q => absurd k.gP (by rw [← q]; decide)) D₀.t⟩ ?_ (fun pos' v e => ?_) (fun e => by rw [hc] at e; cases e)
    · rcases List.mem_cons.mp hp with rfl | hp
      · exact fun q => absurd hPs (by rw [← (show h'.objs.size = P from q)]; exact Nat.not_lt.mpr hsz)
      · exact hPL p hp
    · obtain ⟨o, vs, file, tf, flags, tg, inF, text, tt, e1, rr⟩ := k.hd
      exact ⟨o, vs, file, tf, flags, tg, inF, text, tt, up _ _ hkcP e1, rr⟩
    · rw [el]
      exact TQ.snoc hq gc' rec' (tq1 _ k.tq)
    · rw [el, codeAmong_snoc _ k.tq.trip hc]
    · rw [el]
      exact among_snoc k.tq.trip e
end
end Mine
end -- C4
section -- C5
/-! C5: the statements of the class's body -/
set_option maxRecDepth 100000
namespace Mine
open PySem PySem.W PySem.Calls PyProof.Rows Builtin
set_option maxHeartbeats 2000000

section
variable {w : World} {A : Around} {E : Value → Shared → Prop} {s s₀ : Shared} {b : Heap} {mg mb : Str → Option Value} {bm : Addr} {ob : Obj} {L : LL} {X : List Addr} {env : Env}

noncomputable abbrev args2 (x y : Str) (px py : Pos) : Arguments := ⟨[], [⟨x, none, px⟩, ⟨y, none, py⟩], none, [], [], none, []⟩
theorem cls_fdef {name bind qual x y : Str} {px py : Pos} {body : List Stmt} {sc : Scope} {pos : Pos} {Q : Flow → Shared → Prop} {rest : List Stmt} (hqn : qualnameIn env name bind = qual)
    (h : wpAny (model PW w) A (makeFunction name qual (args2 x y px py) (.stmts body) sc env [] [] [] pos pos.line) (fun f s' => wpAny (model PW w) A (storeName env bind f) (fun _ s'' => wpAny (model PW w) A (execs rest env) Q E s'') E s') E s) :
    wpAny (model PW w) A (execs (.FunctionDef name (args2 x y px py) body [] none [] sc none bind pos :: rest) env) Q E s := by
  refine wpAny_execs_cons ?_
  rw [arm_exec_FunctionDef]
  unfold defStmt
  (with_reducible (conv => arg 3; whnf))
  refine wpAny_ifF rfl ?_
  (with_reducible (conv => arg 3; whnf))
  refine wpAny_bind (wpAny_pure ?_)
  refine wpAny_bind (wpAny_standAt ?_)
  rw [hqn]
  refine wpAny_bind (wpAny_holding (wpAny_bind (wpAny_pure (wpAny_bind (wpAny_holding (wpAny_pure (wpAny_holding ?_)))))))
  refine wpAny_bind (wpAny_of_eq (show evalNamed _ = pure [] from rfl) ?_)
  refine wpAny_mono h (fun f s' hq => ?_) fun _ _ e => e
  refine wpAny_bind (wpAny_pure (wpAny_bind (wpAny_standAt ?_)))
  unfold bindName
  exact wpAny_bind (wpAny_bind (wpAny_holding (wpAny_point (wpAny_bind (wpAny_mono hq (fun _ s'' hr => wpAny_point (wpAny_pure hr)) fun _ _ e => e)))))

/-- x = e, in the class's body -/
theorem cls_assign {x : Str} {px pos : Pos} {e : Expr} {Q : Flow → Shared → Prop} {rest : List Stmt}
    (he : wpAny (model PW w) A (eval e env) (fun v s' => wpAny (model PW w) A (storeName env x v) (fun _ s'' => wpAny (model PW w) A (execs rest env) Q E s'') E s') E s)
    (hs : swapsWithSole [.Name x px] e pos.line env = pure false := by rfl) (hw : swappedStores [.Name x px] e env = pure none := by rfl) :
    wpAny (model PW w) A (execs (.Assign [.Name x px] e pos :: rest) env) Q E s := by
  refine wpAny_execs_cons (wpAny_Assign_stores ?_ hs hw)
  refine wpAny_mono he (fun v s' hq => ?_) fun _ _ e => e
  show wpAny _ A (assign (.Name x px) env v) _ E s'
  exact wpAny_assign_Name hq

/-- the class's environment -/
noncomputable def cEnv (sc : Scope) (nsA kc fr cm : Addr) : Env := { scope := sc, locals := nsA, globals := mainGlobals, qual := qnK ++ ".", code := .ref kc, frame := some fr, builtins := builtinsNs, cells := [("mycmp", cm)] }
noncomputable def kNames : List (Str × NameKind) := [("__module__", .local), ("__slots__", .local), ("__init__", .local), ("__lt__", .local), ("__gt__", .local), ("__eq__", .local), ("__le__", .local), ("__ge__", .local), ("__hash__", .local), ("mycmp", .free)]
structure KSc (sc : Scope) : Prop where
  kind : sc.kind = .class
  names : sc.names = kNames

/-- a def of the body -/
theorem body_def {name x y : Str} {px py pos : Pos} {body rest : List Stmt} {sc scK : Scope} {nsA kc fr cm P : Addr} {ps : Array Value} {es : Array DictEntry} {n : Nat} {L1 L2 : LL} {clos : List (Str × Addr)} {Q : Flow → Shared → Prop} {qual : Str} (W : WW w b mg mb bm ob) (hK : KSc scK)
    (D : LedK b P s₀ s (L1 ++ (nsA, nsB es n) :: L2) kc ps) (fP : b.get? P = none ∨ Full ps) (hq : qK.lookup ((pos.line : Int), (pos.col : Int)) = some qual) (hqn : (qnK ++ "." : Str) ++ name = qual) (hcl : closureFor sc (cEnv scK nsA kc fr cm) = pure clos) (hn : kNames.lookup name = some .local)
    (e : ∀ f t, Obj.putName name (PyData.keyHash w.params name) (.str name t) (.ref f) (nsB es n) = nsB (es.push (en w name t (.ref f))) (n + 1)) (hr : aRefKeyMayBeTheName name es = false)
    (h : ∀ f ps' s' doc pm c' ctv t, LedK b P s₀ s' (((f, fnO name qual (args2 x y px py) body sc clos doc pm c' ctv) :: L1) ++ (nsA, nsB (es.push (en w name t (.ref f))) (n + 1)) :: L2) kc ps' → codeAmong pos ps'.toList = some (.ref c') → (∀ pos' v, codeAmong pos' ps.toList = some v → codeAmong pos' ps'.toList = some v) → ((codeAmong pos ps.toList).isSome = true → ps' = ps) →
      wpAny (model PW w) A (execs rest (cEnv scK nsA kc fr cm)) Q E s') :
    wpAny (model PW w) A (execs (.FunctionDef name (args2 x y px py) body [] none [] sc none name pos :: rest) (cEnv scK nsA kc fr cm)) Q E s := by
  have gs : 232 < s₀.heap.objs.size := D.d.st0.lt W
  have hkn : (cEnv scK nsA kc fr cm).kindOf name = some .local := by show scK.names.lookup name = _; rw [hK.names]; exact hn
  refine cls_fdef (qual := qual) (by unfold qualnameIn; rw [hkn]; exact hqn) ?_
  refine mk_def W D fP hq hcl rfl rfl fun f ps' s1 doc pm c' ctv D1 h1 h2 h3 => ?_
  exact cls_store (L1 := (f, _) :: L1) D1 gs hK.kind (.inl hkn) rfl (e f) hr fun t s2 D2 => h f ps' s2 doc pm c' ctv t D2 h1 h2 h3
end
end Mine
end -- C5
section -- C6
/-! C6: the class's body -/
set_option maxRecDepth 100000
namespace Mine
open PySem PySem.W PySem.Calls PyProof.Rows Builtin
set_option maxHeartbeats 2000000

theorem Full.mono {ps ps' : Array Value} (F : Full ps) (h : ∀ pos' v, codeAmong pos' ps.toList = some v → codeAmong pos' ps'.toList = some v) : Full ps' := fun pos hp => by
  obtain ⟨v, e⟩ := Option.isSome_iff_exists.mp (F pos hp)
  rw [h pos v e]; rfl
theorem full_mono {b : Heap} {P : Addr} {ps ps' : Array Value} (F : b.get? P = none ∨ Full ps) (h : ∀ pos' v, codeAmong pos' ps.toList = some v → codeAmong pos' ps'.toList = some v) : b.get? P = none ∨ Full ps' := F.imp (fun x => x) fun x => x.mono h
theorem among_lc {pos pos' : Pos} (h1 : pos.line = pos'.line) (h2 : pos.col = pos'.col) : ∀ l : List Value, codeAmong pos l = codeAmong pos' l := fun l => by
  fun_induction codeAmong pos l with
  | case1 line t col u c rest h => simp only [codeAmong]; rw [← h1, ← h2, if_pos h]
  | case2 line t col u c rest h ih => simp only [codeAmong]; rw [← h1, ← h2, if_neg h]; exact ih
  | case3 l h =>
    unfold codeAmong
    split
    · rename_i line t col u c rest; exact absurd rfl (h line t col u c rest)
    · rfl
theorem qK_keys {l c : Nat} (h : (qK.lookup ((l : Int), (c : Int))).isSome = true) : c = 8 ∧ (l = 116 ∨ l = 119 ∨ l = 122 ∨ l = 125 ∨ l = 128 ∨ l = 131) := by
  have q : ∀ p ∈ qK.map Prod.fst, p.2 = 8 ∧ (p.1 = 116 ∨ p.1 = 119 ∨ p.1 = 122 ∨ p.1 = 125 ∨ p.1 = 128 ∨ p.1 = 131) := by decide
  have h := q _ (lookup_keys h)
  exact ⟨Int.ofNat_inj.mp h.1, h.2.imp Int.ofNat_inj.mp (.imp Int.ofNat_inj.mp (.imp Int.ofNat_inj.mp (.imp Int.ofNat_inj.mp (.imp Int.ofNat_inj.mp Int.ofNat_inj.mp))))⟩
section
variable {w : World} {A : Around} {E : Value → Shared → Prop} {s s₀ : Shared} {b : Heap} {mg mb : Str → Option Value} {bm : Addr} {ob : Obj} {L : LL} {X : List Addr} {env : Env}

noncomputable def bodyEs (w : World) (t0 t1 t2 t3 t4 t5 : Tok) (sl : Addr) (f : Nat → Addr) (u : Nat → Tok) : Array DictEntry := #[en w (Str.ofString "__module__") t0 (.str (Str.ofString "cpy313.functools") t1), en w (Str.ofString "__qualname__") t2 (.str qnK t3), en w (Str.ofString "__firstlineno__") t4 (.int 112 t5), en w (Str.ofString "__slots__") (u 0) (.ref sl), en w (Str.ofString "__init__") (u 1) (.ref (f 0)), en w (Str.ofString "__lt__") (u 2) (.ref (f 1)), en w (Str.ofString "__gt__") (u 3) (.ref (f 2)), en w (Str.ofString "__eq__") (u 4) (.ref (f 3)), en w (Str.ofString "__le__") (u 5) (.ref (f 4)), en w (Str.ofString "__ge__") (u 6) (.ref (f 5)), en w (Str.ofString "__hash__") (u 7) .none]

theorem cls_body {p0 p1 p2 p3 p4 p5 p6 p7 p8 p9 p10 p11 p12 p13 p14 p15 p16 p17 p18 p19 p20 p21 : Pos} {n0 n1 n2 n3 n4 n5 n6 n7 n8 n9 n10 n11 : Nat} {k0 k1 k2 : Nat} {bd0 bd1 bd2 bd3 bd4 bd5 : List Stmt} {sc0 sc1 sc2 sc3 sc4 sc5 scK : Scope} {nsA kc fr cm P : Addr} {ps : Array Value} {t0 t2 t3 t4 t5 : Tok} {v0 : Value} {L2 : LL} {Q : Flow → Shared → Prop}
    (W : WW w b mg mb bm ob) (hK : KSc scK) (fP : b.get? P = none ∨ Full ps)
    (D : LedK b P s₀ s ((nsA, nsB #[en w (Str.ofString "__module__") t0 v0, en w (Str.ofString "__qualname__") t2 (.str qnK t3), en w (Str.ofString "__firstlineno__") t4 (.int 112 t5)] 3) :: L2) kc ps)
    (hcl0 : closureFor sc0 (cEnv scK nsA kc fr cm) = pure [])
    (hcl1 : closureFor sc1 (cEnv scK nsA kc fr cm) = pure [(Str.ofString "mycmp", cm)])
    (hcl2 : closureFor sc2 (cEnv scK nsA kc fr cm) = pure [(Str.ofString "mycmp", cm)])
    (hcl3 : closureFor sc3 (cEnv scK nsA kc fr cm) = pure [(Str.ofString "mycmp", cm)])
    (hcl4 : closureFor sc4 (cEnv scK nsA kc fr cm) = pure [(Str.ofString "mycmp", cm)])
    (hcl5 : closureFor sc5 (cEnv scK nsA kc fr cm) = pure [(Str.ofString "mycmp", cm)])
    (h : ∀ (t1 t6 : Tok) (sl : Addr) (f : Nat → Addr) (u : Nat → Tok) (dc pm ct : Nat → Value) (c : Nat → Addr) (ps' : Array Value) (s' : Shared),
      LedK b P s₀ s' ([(f 5, fnO (Str.ofString "__ge__") (qM "__ge__") (args2 (Str.ofString "self") (Str.ofString "other") p17 p18) bd5 sc5 [(Str.ofString "mycmp", cm)] (dc 5) (pm 5) (c 5) (ct 5)), (f 4, fnO (Str.ofString "__le__") (qM "__le__") (args2 (Str.ofString "self") (Str.ofString "other") p15 p16) bd4 sc4 [(Str.ofString "mycmp", cm)] (dc 4) (pm 4) (c 4) (ct 4)), (f 3, fnO (Str.ofString "__eq__") (qM "__eq__") (args2 (Str.ofString "self") (Str.ofString "other") p13 p14) bd3 sc3 [(Str.ofString "mycmp", cm)] (dc 3) (pm 3) (c 3) (ct 3)), (f 2, fnO (Str.ofString "__gt__") (qM "__gt__") (args2 (Str.ofString "self") (Str.ofString "other") p11 p12) bd2 sc2 [(Str.ofString "mycmp", cm)] (dc 2) (pm 2) (c 2) (ct 2)), (f 1, fnO (Str.ofString "__lt__") (qM "__lt__") (args2 (Str.ofString "self") (Str.ofString "other") p9 p10) bd1 sc1 [(Str.ofString "mycmp", cm)] (dc 1) (pm 1) (c 1) (ct 1)), (f 0, fnO (Str.ofString "__init__") (qM "__init__") (args2 (Str.ofString "self") (Str.ofString "obj") p7 p8) bd0 sc0 [] (dc 0) (pm 0) (c 0) (ct 0)), (sl, ⟨.type "list", none, .seq #[.str (Str.ofString "obj") t6] 0, #[]⟩)] ++ (nsA, nsB (bodyEs w t0 t1 t2 t3 t4 t5 sl f u) 11) :: L2) kc ps' → (∀ i < 6, ∃ pos, (qK[i]?).map (·.1) = some ((pos.line : Int), (pos.col : Int)) ∧ codeAmong pos ps'.toList = some (.ref (c i))) → Full ps' → (Full ps → ps' = ps) → Q .next s') :
    wpAny (model PW w) A (execs [
      .Assign [.Name (Str.ofString "__module__") p0] (.Constant (.str (Str.ofString "cpy313.functools")) k0 p1) p2,
      .Assign [.Name (Str.ofString "__slots__") p3] (.List [.Constant (.str (Str.ofString "obj")) k1 p4] p5) p6,
      .FunctionDef (Str.ofString "__init__") (args2 (Str.ofString "self") (Str.ofString "obj") p7 p8) bd0 [] none [] sc0 none (Str.ofString "__init__") ⟨116, 8, n0, n1⟩,
      .FunctionDef (Str.ofString "__lt__") (args2 (Str.ofString "self") (Str.ofString "other") p9 p10) bd1 [] none [] sc1 none (Str.ofString "__lt__") ⟨119, 8, n2, n3⟩,
      .FunctionDef (Str.ofString "__gt__") (args2 (Str.ofString "self") (Str.ofString "other") p11 p12) bd2 [] none [] sc2 none (Str.ofString "__gt__") ⟨122, 8, n4, n5⟩,
      .FunctionDef (Str.ofString "__eq__") (args2 (Str.ofString "self") (Str.ofString "other") p13 p14) bd3 [] none [] sc3 none (Str.ofString "__eq__") ⟨125, 8, n6, n7⟩,
      .FunctionDef (Str.ofString "__le__") (args2 (Str.ofString "self") (Str.ofString "other") p15 p16) bd4 [] none [] sc4 none (Str.ofString "__le__") ⟨128, 8, n8, n9⟩,
      .FunctionDef (Str.ofString "__ge__") (args2 (Str.ofString "self") (Str.ofString "other") p17 p18) bd5 [] none [] sc5 none (Str.ofString "__ge__") ⟨131, 8, n10, n11⟩,
      .Assign [.Name (Str.ofString "__hash__") p19] (.Constant .none k2 p20) p21] (cEnv scK nsA kc fr cm)) Q E s := by
  have gs : 232 < s₀.heap.objs.size := D.d.st0.lt W
  have hkn : ∀ x, kNames.lookup x = some .local → (cEnv scK nsA kc fr cm).kindOf x = some .local := fun x hx => by show scK.names.lookup x = _; rw [hK.names]; exact hx
  refine cls_assign (wpAny_Constant_str ?_)
  refine cls_store (L1 := []) (es' := fun t => #[en w (Str.ofString "__module__") t0 (.str (Str.ofString "cpy313.functools") s.toks), en w (Str.ofString "__qualname__") t2 (.str qnK t3), en w (Str.ofString "__firstlineno__") t4 (.int 112 t5)]) (n' := 3) (D.toks (t := s.toks + 1)) gs hK.kind (.inl (hkn _ rfl)) rfl (fun t => by kernel_rfl) (by kernel_rfl) fun _ s1 D1 => ?_
  generalize s.toks = t1 at D1
  refine cls_assign (List_ (spliced_more (wpAny_Constant_str (spliced_none (wpAny_newObj_type ?_ (by show 1 ≤ sizeLine; decide)))) rfl))
  have D2 := (D1.toks (t := s1.toks + 1)).push (o := ⟨.type "list", none, .seq #[.str (Str.ofString "obj") s1.toks] 0, #[]⟩) rfl
  have D2' : LedK b P s₀ _ ([(s1.heap.objs.size, _)] ++ (nsA, _) :: L2) kc ps := D2
  refine cls_store (es' := fun t => _) (n' := 4) D2' gs hK.kind (.inl (hkn _ rfl)) rfl (fun t => show _ = nsB (#[en w (Str.ofString "__module__") t0 (.str (Str.ofString "cpy313.functools") t1), en w (Str.ofString "__qualname__") t2 (.str qnK t3), en w (Str.ofString "__firstlineno__") t4 (.int 112 t5), en w (Str.ofString "__slots__") t (.ref s1.heap.objs.size)]) 4 by kernel_rfl) (by kernel_rfl) fun u0 s3 D3 => ?_
  clear D2 D2'
  generalize s1.heap.objs.size = sl at D3
  generalize s1.toks = t6 at D3
  refine body_def (qual := qM "__init__") W hK D3 fP rfl (by kernel_rfl) hcl0 rfl (fun f t => by kernel_rfl) (by kernel_rfl) fun f0 q0 s4 d0 m0 c0 x0 u1 D4 a0 b0 e0 => ?_
  have fP1 := full_mono fP b0
  refine body_def (qual := qM "__lt__") W hK D4 fP1 rfl (by kernel_rfl) hcl1 rfl (fun f t => by kernel_rfl) (by kernel_rfl) fun f1 q1 s5 d1 m1 c1 x1 u2 D5 a1 b1 e1 => ?_
  have fP2 := full_mono fP1 b1
  refine body_def (qual := qM "__gt__") W hK D5 fP2 rfl (by kernel_rfl) hcl2 rfl (fun f t => by kernel_rfl) (by kernel_rfl) fun f2 q2 s6 d2 m2 c2 x2 u3 D6 a2 b2 e2 => ?_
  have fP3 := full_mono fP2 b2
  refine body_def (qual := qM "__eq__") W hK D6 fP3 rfl (by kernel_rfl) hcl3 rfl (fun f t => by kernel_rfl) (by kernel_rfl) fun f3 q3 s7 d3 m3 c3 x3 u4 D7 a3 b3 e3 => ?_
  have fP4 := full_mono fP3 b3
  refine body_def (qual := qM "__le__") W hK D7 fP4 rfl (by kernel_rfl) hcl4 rfl (fun f t => by kernel_rfl) (by kernel_rfl) fun f4 q4 s8 d4 m4 c4 x4 u5 D8 a4 b4 e4 => ?_
  have fP5 := full_mono fP4 b4
  refine body_def (qual := qM "__ge__") W hK D8 fP5 rfl (by kernel_rfl) hcl5 rfl (fun f t => by kernel_rfl) (by kernel_rfl) fun f5 q5 s9 d5 m5 c5 x5 u6 D9 a5 b5 e5 => ?_
  have fP6 := full_mono fP5 b5
  refine cls_assign (wpAny_Constant_none ?_)
  refine cls_store (es' := fun t => _) (n' := 11) D9 gs hK.kind (.inl (hkn _ rfl)) rfl (fun t => show _ = nsB (bodyEs w t0 t1 t2 t3 t4 t5 sl (fun i => [f0, f1, f2, f3, f4, f5].getD i 0) (fun i => [u0, u1, u2, u3, u4, u5, u6, t].getD i 0)) 11 by kernel_rfl) (by kernel_rfl) fun u7 s10 D10 => wpAny_execs_nil ?_
  refine h t1 t6 sl (fun i => [f0, f1, f2, f3, f4, f5].getD i 0) (fun i => [u0, u1, u2, u3, u4, u5, u6, u7].getD i 0) (fun i => [d0, d1, d2, d3, d4, d5].getD i .none) (fun i => [m0, m1, m2, m3, m4, m5].getD i .none) (fun i => [x0, x1, x2, x3, x4, x5].getD i .none) (fun i => [c0, c1, c2, c3, c4, c5].getD i 0) q5 s10 D10 ?_ ?_ ?_
  · intro i hi
    match i, hi with
    | 0, _ => exact ⟨⟨116, 8, n0, n1⟩, rfl, (b5 _ _ (b4 _ _ (b3 _ _ (b2 _ _ (b1 _ _ a0)))))⟩
    | 1, _ => exact ⟨⟨119, 8, n2, n3⟩, rfl, (b5 _ _ (b4 _ _ (b3 _ _ (b2 _ _ a1))))⟩
    | 2, _ => exact ⟨⟨122, 8, n4, n5⟩, rfl, (b5 _ _ (b4 _ _ (b3 _ _ a2)))⟩
    | 3, _ => exact ⟨⟨125, 8, n6, n7⟩, rfl, (b5 _ _ (b4 _ _ a3))⟩
    | 4, _ => exact ⟨⟨128, 8, n8, n9⟩, rfl, (b5 _ _ a4)⟩
    | 5, _ => exact ⟨⟨131, 8, n10, n11⟩, rfl, a5⟩
  · intro pos hp
    obtain ⟨hc, hl⟩ := qK_keys hp
    rcases hl with hl | hl | hl | hl | hl | hl
    · rw [among_lc (pos' := ⟨116, 8, n0, n1⟩) hl hc, (b5 _ _ (b4 _ _ (b3 _ _ (b2 _ _ (b1 _ _ a0)))))]; rfl
    · rw [among_lc (pos' := ⟨119, 8, n2, n3⟩) hl hc, (b5 _ _ (b4 _ _ (b3 _ _ (b2 _ _ a1))))]; rfl
    · rw [among_lc (pos' := ⟨122, 8, n4, n5⟩) hl hc, (b5 _ _ (b4 _ _ (b3 _ _ a2)))]; rfl
    · rw [among_lc (pos' := ⟨125, 8, n6, n7⟩) hl hc, (b5 _ _ (b4 _ _ a3))]; rfl
    · rw [among_lc (pos' := ⟨128, 8, n8, n9⟩) hl hc, (b5 _ _ a4)]; rfl
    · rw [among_lc (pos' := ⟨131, 8, n10, n11⟩) hl hc, a5]; rfl
  · intro F
    have h0 := e0 (F ⟨116, 8, n0, n1⟩ rfl)
    subst h0
    have h1 := e1 (F ⟨119, 8, n2, n3⟩ rfl)
    subst h1
    have h2 := e2 (F ⟨122, 8, n4, n5⟩ rfl)
    subst h2
    have h3 := e3 (F ⟨125, 8, n6, n7⟩ rfl)
    subst h3
    have h4 := e4 (F ⟨128, 8, n8, n9⟩ rfl)
    subst h4
    have h5 := e5 (F ⟨131, 8, n10, n11⟩ rfl)
    subst h5
    rfl
end
end Mine
end -- C6
section -- C7
/-! C7: the code of K -/
set_option maxRecDepth 100000
namespace Mine
open PySem PySem.W PySem.Calls PyProof.Rows Builtin
set_option maxHeartbeats 2000000

section
variable {w : World} {A : Around} {E : Value → Shared → Prop} {s s₀ : Shared} {b : Heap} {mg mb : Str → Option Value} {bm : Addr} {ob : Obj} {L : LL} {X : List Addr} {env : Env}

/-- K's code: found, or made with an empty table -/
theorem class_code {pos : Pos} {fl : Nat} {name qual : Str} {sc : Scope} {Q : Value → Shared → Prop} (W : WW w b mg mb bm ob) (hp1 : pos.line = 112) (hp2 : pos.col = 4) (hcode : env.code = .ref 188) (D : Led b [] s₀ s L) (c0 : CodOK s₀.heap)
    (h : ∀ kc P ps s', LedK b P s₀ s' L kc ps → (b.get? P = none ∨ Full ps) → ((Full ps ∧ s₀.heap.get? P = some (tabObj ps) ∧ TQ s₀.heap qK ps.toList) ∨ s₀.heap.get? P = none) → Q (.ref kc) s') :
    wpAny (model PW w) A (classCode env pos fl name qual sc) Q E s := by
  have gs : 232 < s₀.heap.objs.size := D.st0.lt W
  have al : ∀ a o, s₀.heap.get? a = some o → s.heap.get? a = some o := fun a o e => D.al a o List.not_mem_nil e
  have hd : CodeHd s.heap 188 184 := codeHd_ext W D.st (by kernel_rfl)
  rcases c0.c184 with e | ⟨kc, P, ps, e, k, f⟩
  · -- made
    have tab := al _ _ e
    obtain ⟨o, vs, file, tf, flags, tg, inF, text, tt, e1, e2, e3, e4, r1, r2, r3, r4, r5, r6⟩ := hd
    unfold classCode codeAt
    rw [hcode, if_neg (show ¬ ((Value.ref 188 == Value.none) = true) from Bool.false_ne_true)]
    refine wpAny_bind (wpAny_fieldsOf e1 e3 ?_)
    rw [r1]
    refine wpAny_bind (wpAny_fieldsOf tab rfl ?_)
    rw [show codeAmong pos (#[] : Array Value).toList = none from rfl, r2, r3, r4, r5]
    refine wpAny_bind (wpAny_newCodeX fun c' P' h' tk hk hc' hP' hcode' htab' hrec' => ?_)
    have tab1 := hk _ _ tab
    refine wpAny_bind (wpAny_updateFieldsOfTheText tab1 rfl ?_)
    have hn : Obj.mapFields (fun vs => if (codeAmong pos vs.toList).isSome = true then vs else vs ++ #[rawInt pos.line, rawInt pos.col, Value.ref c']) (tabObj #[]) = tabObj #[rawInt 112, rawInt 4, .ref c'] := by
      rw [hp1, hp2]; rfl
    have t2 : (h'.update 184 (Obj.mapFields (fun vs => if (codeAmong pos vs.toList).isSome = true then vs else vs ++ #[rawInt pos.line, rawInt pos.col, Value.ref c']))).get? 184 = some (tabObj #[rawInt 112, rawInt 4, .ref c']) :=
      (Heap.get?_update_self _ tab1 (by rw [hn]; rfl)).trans (by rw [hn])
    generalize hh2 : h'.update 184 (Obj.mapFields (fun vs => if (codeAmong pos vs.toList).isSome = true then vs else vs ++ #[rawInt pos.line, rawInt pos.col, Value.ref c'])) = h2 at t2
    have up : ∀ a o, a ≠ 184 → h'.get? a = some o → h2.get? a = some o := fun a o ha e => by rw [← hh2]; exact (Heap.get?_update_ne _ _ _ _ ha).trans e
    have up2 : ∀ a o, a ≠ 184 → s.heap.get? a = some o → h2.get? a = some o := fun a o ha e => up a o ha (hk _ _ e)
    refine wpAny_bind (wpAny_fieldsOf t2 rfl ?_)
    have ht : codeAmong pos (#[rawInt 112, rawInt 4, .ref c'] : Array Value).toList = some (.ref c') := by
      simp [codeAmong, rawInt, hp1, hp2]
    rw [ht]
    have hsz : s.heap.objs.size ≤ h2.objs.size := by
      have h1 : c' < h'.objs.size := hcode'.lt.1
      rw [← hh2, Heap.size_after_update]
      exact Nat.le_of_lt (Nat.lt_of_le_of_lt hc' h1)
    have g1 : 232 < c' := Nat.lt_of_lt_of_le (D.st.lt W) hc'
    have g2 : 232 < P' := Nat.lt_of_lt_of_le (D.st.lt W) hP'
    have n1 : c' ≠ 184 := fun q => by rw [q] at g1; exact absurd g1 (by decide)
    have n2 : P' ≠ 184 := fun q => by rw [q] at g2; exact absurd g2 (by decide)
    have hsz0 : s₀.heap.objs.size ≤ P' := Nat.le_trans D.nx.sz hP'
    have N : Nx0 b [] s { s with heap := h2, toks := tk } := ⟨⟨fun a o e => up2 a o (fun q => by rw [q, W.notab 184 (by decide)] at e; cases e) (D.st.ext a o e), fun T hT => by
        by_cases hT' : T = 184
        · subst hT'; exact ⟨_, t2, TR.cons TR.nil⟩
        · obtain ⟨ps, e, r⟩ := D.st.tab T hT
          exact ⟨ps, up2 _ _ hT' e, r⟩, D.st.bare⟩, fun a o ha _ e => up2 a o (fun q => ha (by rw [q]; decide)) e, hsz, rfl, rfl⟩
    refine wpAny_pure (h c' P' #[] _ ⟨⟨D.st0, (D.nx.tr N).wk, fun a o ha e => up2 a o (fun q => ha (by rw [q]; simp)) (al a o e), fun p hp => up2 _ _ (fun q => ?_) (D.at_ p hp), D.new, D.nd⟩, fun p hp q => ?_, ⟨?_, ?_, up _ _ n2 htab'.2, .nil, g1, g2⟩, t2⟩ (.inl (D.st.fresh hP')) (.inr ?_))
    · have := Nat.lt_of_lt_of_le gs (D.new p hp)
      rw [q] at this
      exact absurd this (by decide)
    · have := Heap.lt_size (D.at_ p hp)
      rw [q] at this
      exact absurd this (Nat.not_lt.mpr hP')
    · have := CodeHd.of hcode' htab'
      obtain ⟨o, vs, file, tf, flags, tg, inF, text, tt, e1, rr⟩ := this
      exact ⟨o, vs, file, tf, flags, tg, inF, text, tt, up _ _ n1 e1, rr⟩
    · obtain ⟨c, o, vs, t, e', g', d, r⟩ := hrec'
      cases e'
      exact ⟨_, _, o, vs, t, rfl, up _ _ n1 g', d, r⟩
    · cases q : s₀.heap.get? P' with
      | none => rfl
      | some o => exact absurd (Heap.lt_size q) (Nat.not_lt.mpr hsz0)
  · -- found
    have k' := k.mv fun a o _ e => al a o e
    obtain ⟨g1, g2, hd', rc, tb, tq⟩ := k'
    have ht : codeAmong pos (#[rawInt 112, rawInt 4, .ref kc] : Array Value).toList = some (.ref kc) := by
      simp [codeAmong, rawInt, hp1, hp2]
    unfold classCode
    refine wpAny_codeAt_hit hcode (hd.code (al _ _ e) trivial) ht ?_
    obtain ⟨_, _, _, _, tb0, tq0⟩ := k
    refine h kc P ps s ⟨⟨D.st0, D.nx.wk, fun a o _ e => al a o e, D.at_, D.new, D.nd⟩, fun p hp q => ?_, ⟨hd', rc, tb, tq, g1, g2⟩, al _ _ e⟩ (.inr f) (.inl ⟨f, tb0, tq0⟩)
    exact absurd (Heap.lt_size tb0) (Nat.not_lt.mpr (q ▸ D.new p hp))
end
end Mine
end -- C7
section -- C8
/-! C8: building the class -/
set_option maxRecDepth 100000
namespace Mine
open PySem PySem.W PySem.Calls PyProof.Rows Builtin
set_option maxHeartbeats 2000000

theorem slot_type_ga : Slot "type" "__getattribute__" "type.__getattribute__" := .of (owner := "type") (n := "__getattribute__") (by rw [typeLookup_type, builtinLookup_eq_fast]; kernel_rfl) (by decide +kernel) (by decide +kernel) (by decide +kernel)
  (by first | exact .inl (by decide +kernel) | exact .inr (by decide +kernel)) (by rw [isSubtype_type]; kernel_rfl)
theorem entry_type_ga : entryFor table "type.__getattribute__" = some Builtin.«type.__getattribute__» := entryFor_of_tree (by kernel_rfl)
theorem own_typ2 : Manifest.owners.lookup (String.ofList ['e', 'p', 'y', 't'].reverse) = some Manifest.sig_type := by kernel_rfl
theorem args_type_ga (o a : Value) : argsOk "type.__getattribute__" ⟨[o, a], []⟩ := by
  unfold argsOk; rw [signature?_of (id := "type.__getattribute__") (n := ['_', '_', 'e', 't', 'u', 'b', 'i', 'r', 't', 't', 'a', 't', 'e', 'g', '_', '_']) (o := ['e', 'p', 'y', 't']) (by kernel_rfl) own_typ2]; kernel_rfl
section
variable {w : World} {A : Around} {E : Value → Shared → Prop} {s s₀ : Shared} {b : Heap} {mg mb : Str → Option Value} {bm : Addr} {ob : Obj} {L : LL} {X : List Addr} {env : Env}

/-- type.__prepare__ -/
noncomputable def prepO : Obj := ⟨.type "builtin_function_or_method", none, .fields #[.builtin "type.__prepare__", .type "type"], #[]⟩
theorem get_prepare {Q : Option Value → Shared → Prop} (W : WW w b mg mb bm ob) (D : Led b X s₀ s L) (h : ∀ (q : Addr) s', Led b X s₀ s' ((q, prepO) :: L) → Q (some (.ref q)) s') : wpAny (model PW w) A (getAttr? (.type "type") (Str.ofString "__prepare__")) Q E s := by
  unfold getAttr?
  refine wpAny_bind (led_text D fun t s1 D1 => ?_)
  unfold getAttrBy?
  refine wpAny_bind (wpAny_attempt ?_)
  unfold getAttrBy
  refine wpAny_holding (wpAny_bind (wpAny_of_eq (show typeOf (.type "type") = pure (.type "type") by kernel_rfl) ?_))
  refine wpAny_bind (wpAny_of_eq (show typeLookup (.type "type") (Str.ofString "__getattribute__") = pure (some (.builtin "type.__getattribute__")) by rw [typeLookup_type, builtinLookup_eq_fast]; kernel_rfl) ?_)
  (with_reducible (conv => arg 3; whnf))
  refine wpAny_ifF (by kernel_rfl) ?_
  unfold getAttrByItsOwn hookBefore callGetattribute boundAndCalled
  refine wpAny_bind (wpAny_of_eq (show (if onTheHeap (.type "type") then typeLookup (.type "type") "__getattr__" else pure none) = pure none from rfl) ?_)
  refine wpAny_bind (wpAny_attempt (wpAny_holding ?_))
  (with_reducible (conv => arg 3; whnf))
  refine wpAny_ifF rfl ?_
  refine wpAny_bind (wpAny_of_eq (slot_type_ga.bind _) ?_)
  (with_reducible (conv => arg 3; whnf))
  refine wpAny_call_entry slot_type_ga (show s1.TypeIs (.type "type") "type" by show typeOf (.type "type") = pure (.type "type"); kernel_rfl) entry_type_ga ?_ (args_type_ga _ _)
  unfold Builtin.«type.__getattribute__»
  (with_reducible (conv => arg 3; whnf))
  refine wpAny_bind (wpAny_of_eq (show asStr? (.str (Str.ofString "__prepare__") t) = pure (some (Str.ofString "__prepare__")) from rfl) ?_)
  (with_reducible (conv => arg 3; whnf))
  have lp : typeLookup (.type "type") (Str.ofString "__prepare__") = pure (some (.builtin "type.__prepare__")) := by rw [typeLookup_type, builtinLookup_eq_fast]; kernel_rfl
  have ls : typeLookup (.type "classmethod_descriptor") (Str.ofString "__set__") = pure none := by rw [typeLookup_type, builtinLookup_eq_fast]; kernel_rfl
  have ldl : typeLookup (.type "classmethod_descriptor") (Str.ofString "__delete__") = pure none := by rw [typeLookup_type, builtinLookup_eq_fast]; kernel_rfl
  have htd : s1.TypeIs (.builtin "type.__prepare__") "classmethod_descriptor" := by show builtinType _ = _; rw [builtinType_eq_fast]; kernel_rfl
  refine wpAny_bind (wpAny_of_eq (show opaqueClassAbove (.type "type") = pure none by kernel_rfl) ?_)
  (with_reducible (conv => arg 3; whnf))
  refine wpAny_bind (wpAny_of_eq (show typeOf (.type "type") = pure (.type "type") by kernel_rfl) (wpAny_bind (wpAny_of_eq lp ?_)))
  (with_reducible (conv => arg 3; whnf))
  refine wpAny_bind (wpAny_specialOf htd slot_cmd_get.lookup ?_)
  (with_reducible (conv => arg 3; whnf))
  refine wpAny_bind (wpAny_specialOf htd ls ?_)
  (with_reducible (conv => arg 3; whnf))
  refine wpAny_ifF rfl (wpAny_bind (wpAny_specialOf htd ldl ?_))
  refine wpAny_bind (wpAny_pure ?_)
  (with_reducible (conv => arg 3; whnf))
  refine wpAny_ifF rfl ?_
  (with_reducible (conv => arg 3; whnf))
  refine wpAny_bind (wpAny_of_eq lp ?_)
  (with_reducible (conv => arg 3; whnf))
  refine wpAny_ifF (by kernel_rfl) (wpAny_bind (wpAny_typeOf htd ?_))
  (with_reducible (conv => arg 3; whnf))
  refine wpAny_ifF (by kernel_rfl) (wpAny_bind (wpAny_specialOf htd slot_cmd_get.lookup ?_))
  (with_reducible (conv => arg 3; whnf))
  refine wpAny_bind (wpAny_holding (wpAny_call_entry slot_cmd_get htd entry_cmd_get ?_ (args_cmd_get _ _ _)))
  rw [show Builtin.«classmethod_descriptor.__get__» ⟨[.builtin "type.__prepare__", .none, .type "type"], []⟩ = (newFields "builtin_function_or_method" [.builtin "type.__prepare__", .type "type"] >>= fun v => ret v) by kernel_rfl]
  refine wpAny_bind (led_newObj (data := .fields #[.builtin "type.__prepare__", .type "type"]) D1 (fun q s2 D2 => wpAny_pure ⟨_, rfl, wpAny_pure ⟨_, rfl, ?_⟩⟩) rfl (by show 2 ≤ _; decide))
  exact wpAny_pure (wpAny_pure (h q s2 D2))
end
end Mine
end -- C8
section -- C9
/-! C9: building the class -/
set_option maxRecDepth 100000
namespace Mine
open PySem PySem.W PySem.Calls PyProof.Rows Builtin
set_option maxHeartbeats 2000000
theorem check_prep (n : Str) (t : Tok) (bt : Addr) : checkBoundCall "type.__prepare__" ⟨[.type "type", .str n t, .ref bt], []⟩ = pure () := by kernel_rfl
theorem entry_prep : entryFor table "type.__prepare__" = some Builtin.«type.__prepare__» := entryFor_of_tree (by kernel_rfl)
section
variable {w : World} {A : Around} {E : Value → Shared → Prop} {s s₀ : Shared} {b : Heap} {mg mb : Str → Option Value} {bm : Addr} {ob : Obj} {L : LL} {X : List Addr} {env : Env}

theorem call_prepare {q bt : Addr} {n : Str} {t : Tok} {Q : Value → Shared → Prop} (W : WW w b mg mb bm ob) (D : Led b X s₀ s L) (hq : s.heap.get? q = some prepO) (h : ∀ (ns : Addr) s', Led b X s₀ s' ((ns, nsB #[] 0) :: L) → Q (.ref ns) s') : wpAny (model PW w) A (call (.ref q) [.str n t, .ref bt]) Q E s := by
  have hp : plainId "type.__prepare__" = true := by decide +kernel
  refine wpAny_call (codeAny_of_tree ?_)
  show wpAny _ A.in1 (callAny (.ref q) ⟨[.str n t, .ref bt], []⟩) _ _ _
  unfold callAny
  refine wpAny_bind (wpAny_load hq ?_)
  (with_reducible (conv => arg 3; whnf))
  refine wpAny_ifT (by kernel_rfl) ?_
  (with_reducible (conv => arg 3; whnf))
  refine wpAny_ifT (by kernel_rfl) ?_
  refine wpAny_bind (wpAny_of_eq (check_prep n t bt) (wpAny_pure ⟨plainId_quiet hp _, codeAny_builtin entry_prep ?_⟩))
  rw [Around.under_plainId hp]
  unfold Builtin.«type.__prepare__»
  exact wpAny_bind (led_newObj (data := .dict #[] 0) D (fun ns s2 D2 => wpAny_pure (h ns s2 D2)) rfl (by show 0 ≤ _; decide))

/-- `__name__` in the class's body -/
theorem cls_name {a : Addr} {es : Array DictEntry} {n : Nat} {Q : Value → Shared → Prop} (W : WW w b mg mb bm ob) (st : St0 b s) (hk : env.scope.kind = .class) (hkd : env.kindOf (Str.ofString "__name__") = none) (hl : env.locals = a) (hg : env.globals = mainGlobals) (ha : s.heap.get? a = some (nsB es n))
    (e : nsLook (Str.ofString "__name__") (nsB es n) = pure none) (h : ∀ v, Q v s) : wpAny (model PW w) A (loadName env (Str.ofString "__name__")) Q E s := by
  have hb : env.blockKind = .class := by unfold Env.blockKind; rw [hk]; rfl
  obtain ⟨v, hv⟩ : ∃ v, nsIn (KK w) mainGlobals (Str.ofString "__name__") = some (some v) := by
    have : ((nsIn (KK w) mainGlobals (Str.ofString "__name__")).join).isSome = true := by kernel_rfl
    cases q : nsIn (KK w) mainGlobals (Str.ofString "__name__") with
    | none => rw [q] at this; cases this
    | some r => cases r with
      | none => rw [q] at this; cases this
      | some v => exact ⟨v, rfl⟩
  unfold loadName
  rw [hb, hkd, hk]
  refine wpAny_ifF rfl ?_
  (with_reducible (conv => arg 3; whnf))
  refine wpAny_ifF (by decide) ?_
  (with_reducible (conv => arg 3; whnf))
  refine wpAny_bind ?_
  unfold localGet
  rw [hl]
  refine wpAny_bind (wpAny_load ha (wpAny_ifT rfl (wpAny_nsGetO ha e ?_)))
  unfold loadGlobal
  rw [hg]
  refine wpAny_bind ((looks_nsIn (st.k W) hv).here (wpAny_pure (h v)))

theorem LedK.tail {P : Addr} {p : Addr × Obj} {kc : Addr} {ps : Array Value} (D : LedK b P s₀ s (p :: L) kc ps) : LedK b P s₀ s L kc ps :=
  ⟨⟨D.d.st0, D.d.nx, D.d.al, fun q hq => D.d.at_ q (.tail _ hq), fun q hq => D.d.new q (.tail _ hq), (List.nodup_cons.mp D.d.nd).2⟩, fun q hq => D.ne q (.tail _ hq), D.k, D.t⟩
noncomputable def nmK : List Str := [Str.ofString "__module__", Str.ofString "__qualname__", Str.ofString "__firstlineno__", Str.ofString "__slots__", Str.ofString "__init__", Str.ofString "__lt__", Str.ofString "__gt__", Str.ofString "__eq__", Str.ofString "__le__", Str.ofString "__ge__", Str.ofString "__hash__", Str.ofString "__static_attributes__"]
noncomputable def mkKV (w : World) (t0 t1 t2 t3 t4 t5 ts : Tok) (sl sa : Addr) (f : Nat → Addr) (u : Nat → Tok) : KV :=
  { t := fun i => [t0, t1, t2, t3, t4, t5, u 0, u 1, u 2, u 3, u 4, u 5, u 6, u 7, ts].getD i 0, h := fun i => PyData.keyHash w.params (nmK.getD i (Str.ofString "")), sl, sa, f, n := 112 }
noncomputable def moK : Str := Str.ofString "cpy313.functools"
theorem ents_mk (w : World) (t0 t1 t2 t3 t4 t5 ts : Tok) (sl sa : Addr) (f : Nat → Addr) (u : Nat → Tok) :
    ents (mkKV w t0 t1 t2 t3 t4 t5 ts sl sa f u) qnK moK = (bodyEs w t0 t1 t2 t3 t4 t5 sl f u).push (en w (Str.ofString "__static_attributes__") ts (.ref sa)) := by kernel_rfl
/-- what the class's body does -/
noncomputable def BodySpec (w : World) (b : Heap) (scK : Scope) (cm : Addr) (body : List Stmt) (FO : Nat → Value → Value → Addr → Value → Obj) : Prop :=
  ∀ (A : Around) (E : Value → Shared → Prop) (Q : Flow → Shared → Prop) (s s₀ : Shared) (nsA kc fr P : Addr) (ps : Array Value) (t0 t2 t3 t4 t5 : Tok) (v0 : Value) (L2 : LL), (b.get? P = none ∨ Full ps) →
    LedK b P s₀ s ((nsA, nsB #[en w (Str.ofString "__module__") t0 v0, en w (Str.ofString "__qualname__") t2 (.str qnK t3), en w (Str.ofString "__firstlineno__") t4 (.int 112 t5)] 3) :: L2) kc ps →
    (∀ (t1 t6 : Tok) (sl : Addr) (f : Nat → Addr) (u : Nat → Tok) (dc pm ct : Nat → Value) (c : Nat → Addr) (ps' : Array Value) (s' : Shared),
      LedK b P s₀ s' ([(f 5, FO 5 (dc 5) (pm 5) (c 5) (ct 5)), (f 4, FO 4 (dc 4) (pm 4) (c 4) (ct 4)), (f 3, FO 3 (dc 3) (pm 3) (c 3) (ct 3)), (f 2, FO 2 (dc 2) (pm 2) (c 2) (ct 2)), (f 1, FO 1 (dc 1) (pm 1) (c 1) (ct 1)), (f 0, FO 0 (dc 0) (pm 0) (c 0) (ct 0)), (sl, ⟨.type "list", none, .seq #[.str (Str.ofString "obj") t6] 0, #[]⟩)] ++ (nsA, nsB (bodyEs w t0 t1 t2 t3 t4 t5 sl f u) 11) :: L2) kc ps' →
      (∀ i < 6, ∃ pos, (qK[i]?).map (·.1) = some ((pos.line : Int), (pos.col : Int)) ∧ codeAmong pos ps'.toList = some (.ref (c i))) → Full ps' → (Full ps → ps' = ps) → Q .next s') →
    wpAny (model PW w) A (execs body (cEnv scK nsA kc fr cm)) Q E s

/-- the class, once it stands -/
structure KAt (w : World) (b : Heap) (lo hi : Nat) (h : Heap) (C : Addr) (FO : Nat → Value → Value → Addr → Value → Obj) : Prop where
  ex : ∃ (bt ns md : Addr) (tn tq t1 t2 t3 : Tok) (K : KV) (dc pm ct : Nat → Value) (c : Nat → Addr), h.get? C = some (clsO w bt ns C tn tq) ∧ h.get? ns = some (nsK w K moK t2 t3 md) ∧ h.get? md = some (mdO t1 C) ∧ (lo ≤ ns ∧ ns < hi) ∧ (lo ≤ md ∧ md < hi) ∧
    (∀ i < 6, h.get? (K.f i) = some (FO i (dc i) (pm i) (c i) (ct i)) ∧ (lo ≤ K.f i ∧ K.f i < hi) ∧ 232 < c i ∧ ∃ q, (qK[i]?).map (·.2) = some q ∧ h.CodeRec (.ref (c i)) q)
  gC : lo ≤ C ∧ C < hi
  lo2 : 232 < lo
theorem KAt.nx {w : World} {b : Heap} {lo hi : Nat} {s s' : Shared} {X : List Addr} {C : Addr} {FO} (K : KAt w b lo hi s.heap C FO) (N : Nx b X s s') (hX : ∀ a ∈ X, (a < lo ∨ hi ≤ a) ∧ NC s.heap a) : KAt w b lo hi s'.heap C FO := by
  have kp : ∀ a o, lo ≤ a ∧ a < hi → s.heap.get? a = some o → s'.heap.get? a = some o := fun a o h e => N.kp a o (notab_of (Nat.lt_of_lt_of_le K.lo2 h.1)) (fun q => by
    rcases (hX a q).1 with x | x
    · exact absurd h.1 (Nat.not_le.mpr x)
    · exact absurd h.2 (Nat.not_lt.mpr x)) e
  obtain ⟨bt, ns, md, tn, tq, t1, t2, t3, KV, dc, pm, ct, c, e1, e2, e3, g1, g2, hf⟩ := K.ex
  refine ⟨⟨bt, ns, md, tn, tq, t1, t2, t3, KV, dc, pm, ct, c, kp _ _ K.gC e1, kp _ _ g1 e2, kp _ _ g2 e3, g1, g2, fun i hi => ?_⟩, K.gC, K.lo2⟩
  obtain ⟨f1, f2, f3, q, f4, r⟩ := hf i hi
  refine ⟨kp _ _ f2 f1, f2, f3, q, f4, ?_⟩
  obtain ⟨o', g', hc⟩ := rec_codey r
  obtain ⟨c', o, vs, t, e, g, d, r⟩ := r
  cases e
  refine ⟨_, o, vs, t, rfl, N.kp _ _ (notab_of f3) (fun x => ?_) g, d, r⟩
  have := (hX _ x).2 o' g'
  rw [hc] at this
  cases this
theorem CodeRec.no {h : Heap} {a : Addr} {q : Str} {ps : Array Value} (r : h.CodeRec (.ref a) q) (e : h.get? a = some (tabObj ps)) (hn : ∀ q t, ps.toList[1]? ≠ some (.str q t)) : False := by
  obtain ⟨c, o, vs, t, e', g', d, r⟩ := r
  cases e'
  rw [e] at g'
  cases g'
  cases d
  exact hn _ _ (by simpa using r)
theorem fin_K {P kc : Addr} {ps ps' : Array Value} {s1 s2 : Shared} {L1 L2 : LL} (W : WW w b mg mb bm ob) (c0 : CodOK s.heap) (D : LedK b P s s1 L1 kc ps') (D2 : Led b [] s1 s2 L2) (hF : Full ps') (hFF : Full ps → ps' = ps) (hit : (Full ps ∧ s.heap.get? P = some (tabObj ps) ∧ TQ s.heap qK ps.toList) ∨ s.heap.get? P = none) : Nx b [] s s2 := by
  have al2 : ∀ a o, s1.heap.get? a = some o → s2.heap.get? a = some o := fun a o e => D2.al a o List.not_mem_nil e
  have keep : ∀ a o, a ≠ 184 → a ≠ P → s.heap.get? a = some o → s2.heap.get? a = some o := fun a o h1 h2 e => al2 a o (D.d.al a o (by simp [h1, h2]) e)
  have t184 : ∃ qs : Array Value, s.heap.get? 184 = some (tabObj qs) ∧ ∀ q t, qs.toList[1]? ≠ some (.str q t) := by
    rcases c0.c184 with e | ⟨kc, P, ps, e, k, f⟩
    · exact ⟨_, e, fun q t => by simp⟩
    · exact ⟨_, e, fun q t => by simp [rawInt]⟩
  obtain ⟨qs, e184, n184⟩ := t184
  have rk : ∀ a q, s.heap.CodeRec (.ref a) q → s2.heap.CodeRec (.ref a) q := fun a q r => by
    have h1 : a ≠ 184 := fun x => by subst x; exact CodeRec.no r e184 n184
    have h2 : a ≠ P := fun x => by
      subst x
      rcases hit with ⟨_, e, tq⟩ | e
      · exact CodeRec.no r e tq.no
      · obtain ⟨c, o, vs, t, e', g', d, r⟩ := r
        cases e'
        rw [e] at g'; cases g'
    obtain ⟨c, o, vs, t, e', g', d, r⟩ := r
    cases e'
    exact ⟨_, o, vs, t, rfl, keep _ _ h1 h2 g', d, r⟩
  have tqk : ∀ (qf : List ((Int × Int) × Str)) (l : List Value), TQ s.heap qf l → TQ s2.heap qf l := fun qf l t => t.mono fun a q _ r => rk a q r
  have gP := D.k.gP
  have nP : ∀ a : Addr, a ≤ 232 → a ≠ P := fun a h q => absurd gP (Nat.not_lt.mpr (q ▸ h))
  refine ⟨⟨D2.nx.s0, fun a o ht _ e => ?_, Nat.le_trans D.d.nx.sz D2.nx.sz, D2.nx.dr.trans D.d.nx.dr, D2.nx.os.trans D.d.nx.os⟩, ?_, ?_, .inr ⟨kc, P, ps', al2 _ _ D.t, (D.k.keeps al2).tabs, hF⟩⟩
  · have h1 : a ≠ 184 := fun q => ht (by rw [q]; decide)
    by_cases h2 : a = P
    · subst h2
      rcases hit with ⟨f, e', _⟩ | e'
      · rw [e'] at e; cases e
        have := D.k.tab
        rw [hFF f] at this
        exact al2 _ _ this
      · rw [e'] at e; cases e
    · exact keep a o h1 h2 e
  · obtain ⟨qs, e, t⟩ := c0.c210
    exact ⟨qs, keep _ _ (by decide) (nP _ (by decide)) e, tqk _ _ t⟩
  · obtain ⟨qs, e, t⟩ := c0.c229
    exact ⟨qs, keep _ _ (by decide) (nP _ (by decide)) e, tqk _ _ t⟩

theorem qK_at {i : Nat} (hi : i < 6) {l c : Nat} {q : Str} (e1 : (qK[i]?).map (·.1) = some ((l : Int), (c : Int))) (e2 : qK.lookup ((l : Int), (c : Int)) = some q) : (qK[i]?).map (·.2) = some q := by
  match i, hi with
  | 0, _ => have := Option.some.inj e1; rw [← this] at e2; exact e2
  | 1, _ => have := Option.some.inj e1; rw [← this] at e2; exact e2
  | 2, _ => have := Option.some.inj e1; rw [← this] at e2; exact e2
  | 3, _ => have := Option.some.inj e1; rw [← this] at e2; exact e2
  | 4, _ => have := Option.some.inj e1; rw [← this] at e2; exact e2
  | 5, _ => have := Option.some.inj e1; rw [← this] at e2; exact e2
theorem build_K {FO : Nat → Value → Value → Addr → Value → Obj} {body : List Stmt} {scK : Scope} {pos : Pos} {cm : Addr} {Q : Value → Shared → Prop} (W : WW w b mg mb bm ob) (hA : A.handled = none) (st : St b s) (hK : KSc scK) (hp1 : pos.line = 112) (hp2 : pos.col = 4) (hcode : env.code = .ref 188) (hg : env.globals = mainGlobals) (hb : env.builtins = builtinsNs) 
    (hD : A.depth < recursionLimit) (hB : BodySpec w b scK cm body FO) (hFO : ∀ i d p c t, (FO i d p c t).cls = .type "function") (hann : hasAnns body = false) (hdoc : docOf body = none) (hcl : closureFor scK env = pure [(Str.ofString "mycmp", cm)])
    (h : ∀ C s', Nx b [] s s' → KAt w b s.heap.objs.size s'.heap.objs.size s'.heap C FO → Q (.ref C) s') : 
    wpAny (model PW w) A (buildClass Ks qnK [.type "object"] [] body scK [Str.ofString "obj"] 112 env pos none) Q E s := by
  have D : Led b [] s s [] := Led.start st.toSt0
  have gs : 232 < s.heap.objs.size := st.lt W
  unfold buildClass
  refine wpAny_bind (led_newObj (data := .seq #[.type "object"] 0) D (fun bt s1 D1 => ?_) rfl (by show 1 ≤ _; decide))
  (with_reducible (conv => arg 3; whnf))
  refine wpAny_bind (wpAny_forCons rfl ?_)
  (with_reducible (conv => arg 3; whnf))
  refine wpAny_bind (wpAny_of_eq (show isType (.type "object") = pure true by rfl) ?_)
  (with_reducible (conv => arg 3; whnf))
  refine wpAny_ifT rfl ?_
  (with_reducible (conv => arg 3; whnf))
  refine wpAny_ifN (by show ¬ ((1 : Nat) > 2 ^ 20); decide) ?_
  refine wpAny_pure ?_
  show wpAny _ _ _ _ _ _
  refine wpAny_forNil rfl ?_
  (with_reducible (conv => arg 3; whnf))
  rw [show ((([], false) : List Value × Bool).fst ++ [Value.type "object"], (([], false) : List Value × Bool).snd).fst = [Value.type "object"] from rfl, List.lookup_nil]
  (with_reducible (conv => arg 3; whnf))
  refine wpAny_bind (wpAny_of_eq (show typeOf (.type "object") = pure (.type "type") by kernel_rfl) ?_)
  (with_reducible (conv => arg 3; whnf))
  refine wpAny_bind (wpAny_of_eq (show isType (.type "type") = pure true by rfl) ?_)
  (with_reducible (conv => arg 3; whnf))
  refine wpAny_ifT rfl ?_
  refine wpAny_bind (wpAny_forCons rfl ?_)
  (with_reducible (conv => arg 3; whnf))
  refine wpAny_bind (wpAny_of_eq (show typeOf (.type "object") = pure (.type "type") by kernel_rfl) (wpAny_bind (wpAny_of_eq (show isSubtype (.type "type") (.type "type") = pure true by rw [isSubtype_type]; kernel_rfl) (wpAny_ifT rfl (wpAny_pure ?_)))))
  show wpAny _ _ _ _ _ _
  refine wpAny_forNil rfl ?_
  (with_reducible (conv => arg 3; whnf))
  refine wpAny_bind (led_text D1 fun tn s2 D2 => ?_)
  (with_reducible (conv => arg 3; whnf))
  refine wpAny_ifF rfl (wpAny_bind (wpAny_pure ?_))
  (with_reducible (conv => arg 3; whnf))
  refine wpAny_holding (wpAny_bind (get_prepare W D2 fun q s3 D3 => ?_))
  (with_reducible (conv => arg 3; whnf))
  refine wpAny_bind (call_prepare W D3 (D3.get .here) fun nsA s4 D4 => ?_)
  (with_reducible (conv => arg 3; whnf))
  have g4 : 232 < nsA := Nat.lt_of_lt_of_le gs (D4.new _ (.head _))
  refine wpAny_bind ?_
  unfold notTheModulesDict
  refine wpAny_ifF (by simpa using (Nat.ne_of_gt (Nat.lt_trans (show sysModules < 232 by decide) g4))) (wpAny_pure ?_)
  have Tns : s4.TypeIs (.ref nsA) "dict" := ⟨_, D4.get .here, rfl⟩
  refine wpAny_bind (wpAny_specialOf Tns (show typeLookup (.type "dict") (Str.ofString "__getitem__") = pure (some (.builtin "dict.__getitem__")) by rw [typeLookup_type, builtinLookup_eq_fast]; kernel_rfl) ?_)
  (with_reducible (conv => arg 3; whnf))
  refine wpAny_ifF rfl ?_
  (with_reducible (conv => arg 3; whnf))
  refine wpAny_holding ?_
  rw [hK.names, hg, hb]
  (with_reducible (conv => arg 3; whnf))
  refine wpAny_ifF (by decide) (wpAny_bind (wpAny_pure ?_))
  (with_reducible (conv => arg 3; whnf))
  refine wpAny_ifF (by decide) (wpAny_bind (wpAny_pure ?_))
  (with_reducible (conv => arg 3; whnf))
  refine wpAny_bind (class_code W hp1 hp2 hcode D4 st.cod fun kc P ps s5 D5 fP hit => ?_)
  obtain ⟨_, _, m1, m2, m3, m4, m5, m6, m7, m8⟩ := D5.d.st.bat W D5.k.tab
  have M := D5.d.st.mod W
  refine wpAny_bind (wpAny_builtinsFor M.ns m1 m2 m5 m6 m7 m8 ?_)
  refine wpAny_bind ?_
  unfold newBodyFrame
  refine wpAny_bind (wpAny_nsGet M.ns ?_)
  refine wpAny_alloc ?_
  have D6 := D5.push (o := { cls := .type "frame", slots := #[some (.ref kc), some (.ref mainGlobals), some (.ref nsA), none, some ((mg (Str.ofString "__name__")).getD .none), none, some (.ref builtinsNs)] }) rfl
  generalize s5.heap.objs.size = fr at D6
  refine wpAny_bind (wpAny_of_eq hcl ?_)
  (with_reducible (conv => arg 3; whnf))
  refine wpAny_holding (wpAny_bind (wpAny_enterFrame (D6.d.st.lim W) hD ?_))
  refine wpAny_bind (wpAny_onRaise ?_)
  have hko : ∀ x, kNames.lookup x = none → compilersOwnNames.contains x = true → (cEnv scK nsA kc fr cm).kindOf x = some .local ∨ ((cEnv scK nsA kc fr cm).kindOf x = none ∧ compilersOwnNames.contains x = true) := fun x h1 h2 => .inr ⟨by show scK.names.lookup x = _; rw [hK.names]; exact h1, h2⟩
  have hkl : ∀ x, kNames.lookup x = some .local → (cEnv scK nsA kc fr cm).kindOf x = some .local ∨ ((cEnv scK nsA kc fr cm).kindOf x = none ∧ compilersOwnNames.contains x = true) := fun x h1 => .inl (by show scK.names.lookup x = _; rw [hK.names]; exact h1)
  have D6' : LedK b P s _ ([(fr, _)] ++ (nsA, nsB #[] 0) :: (q, prepO) :: _) kc ps := D6
  refine wpAny_bind (cls_name (env := cEnv scK nsA kc fr cm) W D6.d.st hK.kind (by show scK.names.lookup _ = _; rw [hK.names]; rfl) rfl rfl (D6.d.get (.there .here)) (by kernel_rfl) fun v0 => ?_)
  refine wpAny_bind (cls_store (env := cEnv scK nsA kc fr cm) (es' := fun t => #[en w (Str.ofString "__module__") t v0]) (n' := 1) D6' gs hK.kind (hkl _ rfl) rfl (fun t => by kernel_rfl) (by kernel_rfl) fun t0 s7 D7 => ?_)
  refine wpAny_bind (wpAny_mkText ?_)
  refine wpAny_bind (cls_store (env := cEnv scK nsA kc fr cm) (es' := fun t => #[en w (Str.ofString "__module__") t0 v0, en w (Str.ofString "__qualname__") t (.str qnK s7.toks)]) (n' := 2) (D7.toks (t := s7.toks + 1)) gs hK.kind (hko _ rfl (by decide)) rfl (fun t => by kernel_rfl) (by kernel_rfl) fun t2 s8 D8 => ?_)
  refine wpAny_bind (wpAny_mkInt ?_)
  refine wpAny_bind (cls_store (env := cEnv scK nsA kc fr cm) (es' := fun t => #[en w (Str.ofString "__module__") t0 v0, en w (Str.ofString "__qualname__") t2 (.str qnK s7.toks), en w (Str.ofString "__firstlineno__") t (.int 112 s8.toks)]) (n' := 3) (D8.toks (t := s8.toks + 1)) gs hK.kind (hko _ rfl (by decide)) rfl (fun t => by kernel_rfl) (by kernel_rfl) fun t4 s9 D9 => ?_)
  (with_reducible (conv => arg 3; whnf))
  refine wpAny_pure ?_
  (with_reducible (conv => arg 3; whnf))
  refine wpAny_bind (wpAny_run ?_)
  refine codeAny_body hann hdoc ?_
  refine hB _ _ _ s9 s nsA kc fr P ps t0 t2 s7.toks t4 s8.toks v0 _ fP D9.tail fun t1 t6 sl f u dc pm ct c ps' s10 D10 hc hF hFF => ?_
  show wpAny _ _ _ _ _ _
  refine wpAny_bind (wpAny_onRaise ?_)
  refine wpAny_bind (wpAny_mkStrs fun vs => ?_)
  refine wpAny_bind (wpAny_newObjAsIs_type ?_)
  have D11 := (D10.toks (t := s10.toks + [Str.ofString "obj"].length)).push (o := { cls := .type "tuple", data := .seq vs.toArray }) rfl
  have D11' : LedK b P s _ (((s10.heap.objs.size, { cls := .type "tuple", data := .seq vs.toArray }) :: _) ++ (nsA, nsB (bodyEs w t0 t1 t2 s7.toks t4 s8.toks sl f u) 11) :: _) kc ps' := D11
  generalize s10.heap.objs.size = sa at D11'
  refine wpAny_bind (cls_store (env := cEnv scK nsA kc fr cm) (es' := fun t => (bodyEs w t0 t1 t2 s7.toks t4 s8.toks sl f u).push (en w (Str.ofString "__static_attributes__") t (.ref sa))) (n' := 12) D11' gs hK.kind (hko _ rfl (by decide)) rfl (fun t => by kernel_rfl) (by kernel_rfl) fun ts s12 D12 => ?_)
  (with_reducible (conv => arg 3; whnf))
  refine wpAny_pure ?_
  (with_reducible (conv => arg 3; whnf))
  refine wpAny_ifF rfl ?_
  (with_reducible (conv => arg 3; whnf))
  have e0 := ents_mk w t0 t1 t2 s7.toks t4 s8.toks ts sl sa f u
  have fF : ∀ i < 6, s12.heap.get? (f i) = some (FO i (dc i) (pm i) (c i) (ct i)) ∧ 232 < f i ∧ s.heap.objs.size ≤ f i := by
    intro i hi
    match i, hi with
    | 0, _ => exact ⟨D12.d.at_ (f 0, FO 0 (dc 0) (pm 0) (c 0) (ct 0)) (by repeat (first | exact .head _ | apply List.Mem.tail)), Nat.lt_of_lt_of_le gs (D12.d.new (f 0, FO 0 (dc 0) (pm 0) (c 0) (ct 0)) (by repeat (first | exact .head _ | apply List.Mem.tail))), D12.d.new (f 0, FO 0 (dc 0) (pm 0) (c 0) (ct 0)) (by repeat (first | exact .head _ | apply List.Mem.tail))⟩
    | 1, _ => exact ⟨D12.d.at_ (f 1, FO 1 (dc 1) (pm 1) (c 1) (ct 1)) (by repeat (first | exact .head _ | apply List.Mem.tail)), Nat.lt_of_lt_of_le gs (D12.d.new (f 1, FO 1 (dc 1) (pm 1) (c 1) (ct 1)) (by repeat (first | exact .head _ | apply List.Mem.tail))), D12.d.new (f 1, FO 1 (dc 1) (pm 1) (c 1) (ct 1)) (by repeat (first | exact .head _ | apply List.Mem.tail))⟩
    | 2, _ => exact ⟨D12.d.at_ (f 2, FO 2 (dc 2) (pm 2) (c 2) (ct 2)) (by repeat (first | exact .head _ | apply List.Mem.tail)), Nat.lt_of_lt_of_le gs (D12.d.new (f 2, FO 2 (dc 2) (pm 2) (c 2) (ct 2)) (by repeat (first | exact .head _ | apply List.Mem.tail))), D12.d.new (f 2, FO 2 (dc 2) (pm 2) (c 2) (ct 2)) (by repeat (first | exact .head _ | apply List.Mem.tail))⟩
    | 3, _ => exact ⟨D12.d.at_ (f 3, FO 3 (dc 3) (pm 3) (c 3) (ct 3)) (by repeat (first | exact .head _ | apply List.Mem.tail)), Nat.lt_of_lt_of_le gs (D12.d.new (f 3, FO 3 (dc 3) (pm 3) (c 3) (ct 3)) (by repeat (first | exact .head _ | apply List.Mem.tail))), D12.d.new (f 3, FO 3 (dc 3) (pm 3) (c 3) (ct 3)) (by repeat (first | exact .head _ | apply List.Mem.tail))⟩
    | 4, _ => exact ⟨D12.d.at_ (f 4, FO 4 (dc 4) (pm 4) (c 4) (ct 4)) (by repeat (first | exact .head _ | apply List.Mem.tail)), Nat.lt_of_lt_of_le gs (D12.d.new (f 4, FO 4 (dc 4) (pm 4) (c 4) (ct 4)) (by repeat (first | exact .head _ | apply List.Mem.tail))), D12.d.new (f 4, FO 4 (dc 4) (pm 4) (c 4) (ct 4)) (by repeat (first | exact .head _ | apply List.Mem.tail))⟩
    | 5, _ => exact ⟨D12.d.at_ (f 5, FO 5 (dc 5) (pm 5) (c 5) (ct 5)) (by repeat (first | exact .head _ | apply List.Mem.tail)), Nat.lt_of_lt_of_le gs (D12.d.new (f 5, FO 5 (dc 5) (pm 5) (c 5) (ct 5)) (by repeat (first | exact .head _ | apply List.Mem.tail))), D12.d.new (f 5, FO 5 (dc 5) (pm 5) (c 5) (ct 5)) (by repeat (first | exact .head _ | apply List.Mem.tail))⟩
  refine wpAny_bind (call_type_K (K := mkKV w t0 t1 t2 s7.toks t4 s8.toks ts sl sa f u) (mo := moK) (t0 := t6) (n := 0) hA W D12.d.st (D12.d.at_ (bt, _) (by repeat (first | exact .head _ | apply List.Mem.tail))) (by rw [e0]; exact D12.d.at_ (nsA, _) (by repeat (first | exact .head _ | apply List.Mem.tail))) (D12.d.at_ (sl, _) (by repeat (first | exact .head _ | apply List.Mem.tail)))
    (fun i hi => ⟨_, (fF i hi).1, hFO _ _ _ _ _, (fF i hi).2.1⟩) ⟨_, D12.d.at_ (sa, { cls := .type "tuple", data := .seq vs.toArray }) (by repeat (first | exact .head _ | apply List.Mem.tail)), rfl, Nat.lt_of_lt_of_le gs (D12.d.new (sa, { cls := .type "tuple", data := .seq vs.toArray }) (by repeat (first | exact .head _ | apply List.Mem.tail)))⟩ g4 (Nat.lt_of_lt_of_le gs (D12.d.new (sl, ⟨.type "list", none, .seq #[.str (Str.ofString "obj") t6] 0, #[]⟩) (by repeat (first | exact .head _ | apply List.Mem.tail)))) fun C ns md u1 u2 u3 s13 D13 => ?_)
  (with_reducible (conv => arg 3; whnf))
  have sz12 : s.heap.objs.size ≤ s12.heap.objs.size := D12.d.nx.sz
  have sz13 : s12.heap.objs.size ≤ s13.heap.objs.size := D13.nx.sz
  have rg : ∀ p ∈ [(md, mdO u1 C), (C, clsO w bt ns C tn s7.toks), (ns, nsK w (mkKV w t0 t1 t2 s7.toks t4 s8.toks ts sl sa f u) moK u2 u3 md)], s.heap.objs.size ≤ p.1 ∧ p.1 < s13.heap.objs.size := fun p hp => ⟨Nat.le_trans sz12 (D13.new p hp), Heap.lt_size (D13.at_ p hp)⟩
  refine wpAny_pure (h C s13 (fin_K W st.cod D12 D13 hF hFF hit) ⟨⟨bt, ns, md, tn, _, u1, u2, u3, _, dc, pm, ct, c, D13.get (.there .here), D13.get (.there (.there .here)), D13.get .here, rg _ (At.there (At.there At.here)).mem, rg _ At.here.mem, fun i hi => ?_⟩, rg _ (At.there At.here).mem, gs⟩)
  obtain ⟨pos, e1, e2⟩ := hc i hi
  obtain ⟨a, qq, e3, e4, g, r⟩ := D12.k.tq.find e2
  cases e3
  exact ⟨D13.al _ _ List.not_mem_nil (fF i hi).1, ⟨(fF i hi).2.2, Nat.lt_of_lt_of_le (Heap.lt_size (fF i hi).1) sz13⟩, g, qq, qK_at hi e1 e4, r.keeps fun a o e => D13.al a o List.not_mem_nil e⟩
end
end Mine
end -- C9
section -- C10
/-! C10: cmp_to_key -/
set_option maxRecDepth 100000
namespace Mine
open PySem PySem.W PySem.Calls PyProof.Rows Builtin
set_option maxHeartbeats 2000000

noncomputable def FOof (p7 p8 p9 p10 p11 p12 p13 p14 p15 p16 p17 p18 : Pos) (bd0 bd1 bd2 bd3 bd4 bd5 : List Stmt) (sc0 sc1 sc2 sc3 sc4 sc5 : Scope) (cm : Addr) : Nat → Value → Value → Addr → Value → Obj
  | 0, d, pm, c, t => fnO (Str.ofString "__init__") (qM "__init__") (args2 (Str.ofString "self") (Str.ofString "obj") p7 p8) bd0 sc0 [] d pm c t
  | 1, d, pm, c, t => fnO (Str.ofString "__lt__") (qM "__lt__") (args2 (Str.ofString "self") (Str.ofString "other") p9 p10) bd1 sc1 [(Str.ofString "mycmp", cm)] d pm c t
  | 2, d, pm, c, t => fnO (Str.ofString "__gt__") (qM "__gt__") (args2 (Str.ofString "self") (Str.ofString "other") p11 p12) bd2 sc2 [(Str.ofString "mycmp", cm)] d pm c t
  | 3, d, pm, c, t => fnO (Str.ofString "__eq__") (qM "__eq__") (args2 (Str.ofString "self") (Str.ofString "other") p13 p14) bd3 sc3 [(Str.ofString "mycmp", cm)] d pm c t
  | 4, d, pm, c, t => fnO (Str.ofString "__le__") (qM "__le__") (args2 (Str.ofString "self") (Str.ofString "other") p15 p16) bd4 sc4 [(Str.ofString "mycmp", cm)] d pm c t
  | _, d, pm, c, t => fnO (Str.ofString "__ge__") (qM "__ge__") (args2 (Str.ofString "self") (Str.ofString "other") p17 p18) bd5 sc5 [(Str.ofString "mycmp", cm)] d pm c t

theorem cls_spec {w : World} {b : Heap} {mg mb : Str → Option Value} {bm : Addr} {ob : Obj} {p0 p1 p2 p3 p4 p5 p6 p7 p8 p9 p10 p11 p12 p13 p14 p15 p16 p17 p18 p19 p20 p21 : Pos} {n0 n1 n2 n3 n4 n5 n6 n7 n8 n9 n10 n11 : Nat} {k0 k1 k2 : Nat} {bd0 bd1 bd2 bd3 bd4 bd5 : List Stmt} {sc0 sc1 sc2 sc3 sc4 sc5 scK : Scope} {cm : Addr}
    (W : WW w b mg mb bm ob) (hK : KSc scK)
    (hcl0 : ∀ nsA kc fr, closureFor sc0 (cEnv scK nsA kc fr cm) = pure [])
    (hcl1 : ∀ nsA kc fr, closureFor sc1 (cEnv scK nsA kc fr cm) = pure [(Str.ofString "mycmp", cm)])
    (hcl2 : ∀ nsA kc fr, closureFor sc2 (cEnv scK nsA kc fr cm) = pure [(Str.ofString "mycmp", cm)])
    (hcl3 : ∀ nsA kc fr, closureFor sc3 (cEnv scK nsA kc fr cm) = pure [(Str.ofString "mycmp", cm)])
    (hcl4 : ∀ nsA kc fr, closureFor sc4 (cEnv scK nsA kc fr cm) = pure [(Str.ofString "mycmp", cm)])
    (hcl5 : ∀ nsA kc fr, closureFor sc5 (cEnv scK nsA kc fr cm) = pure [(Str.ofString "mycmp", cm)]) :
    BodySpec w b scK cm [
      .Assign [.Name (Str.ofString "__module__") p0] (.Constant (.str (Str.ofString "cpy313.functools")) k0 p1) p2,
      .Assign [.Name (Str.ofString "__slots__") p3] (.List [.Constant (.str (Str.ofString "obj")) k1 p4] p5) p6,
      .FunctionDef (Str.ofString "__init__") (args2 (Str.ofString "self") (Str.ofString "obj") p7 p8) bd0 [] none [] sc0 none (Str.ofString "__init__") ⟨116, 8, n0, n1⟩,
      .FunctionDef (Str.ofString "__lt__") (args2 (Str.ofString "self") (Str.ofString "other") p9 p10) bd1 [] none [] sc1 none (Str.ofString "__lt__") ⟨119, 8, n2, n3⟩,
      .FunctionDef (Str.ofString "__gt__") (args2 (Str.ofString "self") (Str.ofString "other") p11 p12) bd2 [] none [] sc2 none (Str.ofString "__gt__") ⟨122, 8, n4, n5⟩,
      .FunctionDef (Str.ofString "__eq__") (args2 (Str.ofString "self") (Str.ofString "other") p13 p14) bd3 [] none [] sc3 none (Str.ofString "__eq__") ⟨125, 8, n6, n7⟩,
      .FunctionDef (Str.ofString "__le__") (args2 (Str.ofString "self") (Str.ofString "other") p15 p16) bd4 [] none [] sc4 none (Str.ofString "__le__") ⟨128, 8, n8, n9⟩,
      .FunctionDef (Str.ofString "__ge__") (args2 (Str.ofString "self") (Str.ofString "other") p17 p18) bd5 [] none [] sc5 none (Str.ofString "__ge__") ⟨131, 8, n10, n11⟩,
      .Assign [.Name (Str.ofString "__hash__") p19] (.Constant .none k2 p20) p21] (FOof p7 p8 p9 p10 p11 p12 p13 p14 p15 p16 p17 p18 bd0 bd1 bd2 bd3 bd4 bd5 sc0 sc1 sc2 sc3 sc4 sc5 cm) :=
  fun A E Q s s₀ nsA kc fr P ps t0 t2 t3 t4 t5 v0 L2 fP D h => cls_body W hK fP D (hcl0 _ _ _) (hcl1 _ _ _) (hcl2 _ _ _) (hcl3 _ _ _) (hcl4 _ _ _) (hcl5 _ _ _) h

section
variable {w : World} {A : Around} {E : Value → Shared → Prop} {s s₀ : Shared} {b : Heap} {mg mb : Str → Option Value} {bm : Addr} {ob : Obj} {env : Env} {O : List Str} {G : List (Str × VP)} {B : List Addr}

noncomputable abbrev scInit : Scope := ⟨.function, [(Str.ofString "self", .local), (Str.ofString "obj", .local)], false, false, []⟩
noncomputable abbrev scLt : Scope := ⟨.function, [(Str.ofString "self", .local), (Str.ofString "other", .local), (Str.ofString "mycmp", .free)], false, false, []⟩
/-- the two functions of K that the sort calls -/
structure FOk (cm : Addr) (FO : Nat → Value → Value → Addr → Value → Obj) : Prop where
  init : ∃ px py p1 p2 p3, ∀ d p c t, FO 0 d p c t = fnO (Str.ofString "__init__") (qM "__init__") (args2 (Str.ofString "self") (Str.ofString "obj") px py) [.Assign [.Attribute (.Name (Str.ofString "self") p1) (Str.ofString "obj") p2] (.Name (Str.ofString "obj") p3) ⟨117, 12, 117, 26⟩] scInit [] d p c t
  lt : ∃ px py p1 p2 p3 p4 p5 p6 p7 p8 p9 k, ∀ d p c t, FO 1 d p c t = fnO (Str.ofString "__lt__") (qM "__lt__") (args2 (Str.ofString "self") (Str.ofString "other") px py)
    [.Return (some (.Compare (.Call (.Name (Str.ofString "mycmp") p1) [.Attribute (.Name (Str.ofString "self") p2) (Str.ofString "obj") p3, .Attribute (.Name (Str.ofString "other") p4) (Str.ofString "obj") p5] [] p6) [.Lt] [.Constant (.int 0) k p7] p8)) p9] scLt [(Str.ofString "mycmp", cm)] d p c t

theorem enterF {f : Addr} {fd : FuncData} {body : List Stmt} {cls : Value} {dd : Option Addr} {sl : Array (Option Value)} {ns : List Str} {Ps : List VP} {vs : List Value} {Q : Value → Shared → Prop} (O : List Str)
    (W : WW w b mg mb bm ob) (st : St b s) (lB : ∀ d ∈ B, d < s.heap.objs.size) (ar : AllR B s.heap Ps vs) (hD : A.depth < recursionLimit) (hK : (KK w).lookup f = some ⟨cls, dd, .func fd, sl⟩) (hbody : fd.body = .stmts body) (hcd : codeIn (KK w) fd.code fd.qualname = true)
    (hgl : fd.globals = mainGlobals) (hbl : fd.builtins = builtinsNs) (hclo : fd.closure = [])
    (hlen : ns.length = Ps.length) (nd : ns.Nodup) (hbind : ∀ vs : List Value, vs.length = ns.length → bindArgs fd ⟨vs, []⟩ = pure (ns.zip vs))
    (hkind : ∀ L : Addr, ∀ x ∈ ns, fd.scope.names.lookup x = some .local ∨ (fd.scope.names.lookup x = some .cell ∧ ((cellsFrom (L + 1) fd.scope.names []).lookup x).isSome = true))
    (hO : ∀ L : Addr, ∀ x ∈ O, ((cellsFrom (L + 1) fd.scope.names []).lookup x).isSome = true)
    (h : ∀ L A₁ s₁ (Q' : Flow → Shared → Prop) E', A₁.handled = A.handled → A₁.depth = A.depth + 1 → A₁.units = A.units + 3 → Fm b O B (callEnvC fd L f) s (ns.zip Ps) s₁ → (∀ v s', Q v s' → Q' (.ret v) s') → (∀ s', Q .none s' → Q' .next s') → wpAny (model PW w) A₁ (execs body (callEnvC fd L f)) Q' E' s₁)
    (hco : fd.scope.isCoroutine = false := by rfl) (hgen : fd.scope.isGenerator = false := by rfl) (hk : fd.scope.kind = .function := by rfl) : wpAny (model PW w) A (call (.ref f) vs) Q E s := by
  have hvl : vs.length = ns.length := ar.len.trans hlen.symm
  refine wpAny_call (codeAny_call_cells (fd := fd) (body := body) hD (st.k W _ _ hK) rfl (st.lim W) (codeRec_of (st.k W) hcd) hbody (hbind vs hvl) hclo (fun x hx => ?_) (fun s₁ ic => ?_) hco hgen hk)
  · obtain ⟨n, v⟩ := x
    exact hkind _ n (List.of_mem_zip hx).1
  have ic' := ic.toInCall
  obtain ⟨h', tk, e1⟩ := ic'.same
  subst e1
  have hsz : s.heap.objs.size < h'.objs.size := ic'.ns.lt
  have N : Nx b [] s { s with heap := h', toks := tk } := Nx.all st ic'.keep rfl rfl rfl (Nat.le_of_lt hsz)
  refine h s.heap.objs.size (A.deeper (callEnvC fd s.heap.objs.size f)) _ _ _ rfl rfl rfl ?_ (fun v s' q => q) (fun s' q => q)
  refine ⟨N, hk, hgl, hbl, st.lt W, Nat.le_refl _, fun a ha => st.fresh ha, fun d hd => Nat.lt_of_lt_of_le (lB d hd) N.sz, fun y c e => ?_, fun x hx => ?_, ?_⟩
  · have hc := ic.cell y c e
    exact ⟨hc.lt, Nat.lt_trans (st.lt W) (ic.above y c (mem_of_lookup e))⟩
  · obtain ⟨c, hc⟩ := Option.isSome_iff_exists.mp (hO s.heap.objs.size x hx)
    exact ⟨c, hc, Nat.le_of_lt (ic.above x c (mem_of_lookup hc)), ⟨_, ic.cell x c hc⟩, fun y hy => name_of_addr ic.apart (mem_of_lookup hy) (mem_of_lookup hc)⟩
  · refine ⟨_, ic'.ns, fun x Px e => ?_⟩
    obtain ⟨v, hv, hp⟩ := zip_val ar e
    refine ⟨v, Px.st (Mv.of0 N) hp, ?_⟩
    have hxn : x ∈ ns := (List.of_mem_zip (_root_.PySem.mem_of_lookup e)).1
    rcases hkind s.heap.objs.size x hxn with hl | ⟨hl, hc⟩
    · exact .inl ⟨hl, bindL_get hl nd hv⟩
    · obtain ⟨c, hc⟩ := Option.isSome_iff_exists.mp hc
      refine .inr ⟨.inl hl, c, hc, Nat.lt_trans (st.lt W) (ic.above x c (mem_of_lookup hc)), ?_⟩
      have := ic.cell x c hc
      rwa [bindC_get (by show fd.scope.names.lookup x ≠ _; rw [hl]; decide) nd hv] at this

theorem exec_classdef {p1 : Pos} {body : List Stmt} {sc : Scope} {st' : List Str} {pos : Pos} {Q : Flow → Shared → Prop} (W : WW w b mg mb bm ob) (F : Fm b O B env s₀ G s) (hob : env.kindOf (Str.ofString "object") = some .globalImplicit) (hqn : qualnameIn env Ks Ks = qnK)
    (h : wpAny (model PW w) A (buildClass Ks qnK [.type "object"] [] body sc st' pos.line env pos none) (fun c s' => wpAny (model PW w) A (storeName env Ks c) (fun _ s'' => Q .next s'') E s') E s) :
    wpAny (model PW w) A (exec (.ClassDef Ks [.Name (Str.ofString "object") p1] [] body [] [] sc none Ks st' pos) env) Q E s := by
  rw [arm_exec_ClassDef]
  refine wpAny_bind (wpAny_pure (wpAny_bind (wpAny_standAt ?_)))
  refine wpAny_bind ?_
  unfold buildClassGuard
  rw [F.bl]
  refine wpAny_bind (wpAny_nsGet (F.st.bi W) ?_)
  rw [(W.boot (Str.ofString "__build_class__") (by decide +kernel)).trans (show bootBuiltins (Str.ofString "__build_class__") = some (.builtin "__build_class__") by kernel_rfl)]
  (with_reducible (conv => arg 3; whnf))
  refine wpAny_pure ?_
  refine wpAny_bind (wpAny_holding (wpAny_bind ?_))
  unfold evalArgs
  (with_reducible (conv => arg 3; whnf))
  refine wpAny_bind (spliced_more (nm_bi W F.st (v := .type "object") (by kernel_rfl) (spliced_none ?_) (by kernel_rfl) F.ks hob F.gl F.bl (by decide) (by decide)) rfl)
  refine wpAny_bind (wpAny_pure (wpAny_holding ?_))
  refine wpAny_ifT rfl (wpAny_bind (wpAny_pure (wpAny_bind (wpAny_pure (wpAny_pure ?_)))))
  rw [hqn]
  refine wpAny_bind (wpAny_standAt (wpAny_holding (wpAny_mono h (fun c s' hq => ?_) fun _ _ e => e)))
  refine wpAny_bind (wpAny_pure (wpAny_bind (wpAny_standAt (wpAny_bind ?_))))
  unfold bindName
  exact wpAny_bind (wpAny_holding (wpAny_point (wpAny_bind (wpAny_mono hq (fun _ s'' hr => wpAny_point (wpAny_pure hr)) fun _ _ e => e))))

theorem cmp_to_key {f : Addr} {Q : Value → Shared → Prop} (W : WW w b mg mb bm ob) (st : St b s) (hA : A.handled = none) (hD : A.depth < 800)
    (h : ∀ C cm FO lo hi s', Nx b [] s s' → FOk cm FO → KAt w b lo hi s'.heap C FO → s.heap.objs.size ≤ lo → hi ≤ s'.heap.objs.size → s'.heap.IsCell cm (some (.ref f)) → s.heap.objs.size ≤ cm → cm < lo → Q (.ref C) s') : wpAny (model PW w) A (call (.ref 189) [.ref f]) Q E s := by
  refine enterF (f := 189) (B := []) (ns := [Str.ofString "mycmp"]) (Ps := [isV (.ref f)]) [Str.ofString "mycmp"] W st (fun _ h => nomatch h) ⟨rfl, trivial⟩ (Nat.lt_trans hD (by decide)) rfl rfl (by kernel_rfl) rfl rfl rfl rfl (by decide)
    (fun vs h => by obtain ⟨a, rfl⟩ := len1 h; rfl) (fun L x hx => by rw [List.mem_singleton.mp hx]; exact .inr ⟨rfl, rfl⟩) (fun L x hx => by rw [List.mem_singleton.mp hx]; rfl) fun L A₁ s₁ Q' E' hA₁ hD₁ hU₁ F r1 r2 => ?_
  have hA₁' := hA₁.trans hA
  refine wpAny_execs_cons (exec_classdef W F rfl (by kernel_rfl) ?_)
  refine build_K W hA₁' F.st ⟨rfl, rfl⟩ rfl rfl rfl rfl rfl (by rw [hD₁]; exact Nat.lt_trans (Nat.succ_lt_succ hD) (by decide)) (cls_spec (cm := L + 1) W ⟨rfl, rfl⟩ (fun _ _ _ => rfl) (fun _ _ _ => rfl) (fun _ _ _ => rfl) (fun _ _ _ => rfl) (fun _ _ _ => rfl) (fun _ _ _ => rfl)) (fun i d p c t => ?_) rfl rfl rfl fun C s2 N2 K2 => ?_
  · match i with
    | 0 => rfl
    | 1 => rfl
    | 2 => rfl
    | 3 => rfl
    | 4 => rfl
    | _ + 5 => rfl
  have F2 := F.step N2
  refine F2.setM (P := isV (.ref C)) rfl (.inl rfl) fun a s3 N3 wr mine F3 => ?_
  have hnc : NC s2.heap a := wr.elim (fun ⟨_, x⟩ => NC.ns x) (fun ⟨_, x⟩ => NC.isCell x)
  obtain ⟨m, hn, hv⟩ := F3.vars
  have ha : a < s₁.heap.objs.size := by
    rcases mine with e | ⟨y, e⟩
    · obtain ⟨m₁, hn₁, _⟩ := F.vars
      rw [e]; exact hn₁.lt
    · exact (F.lc y a e).1
  have K3 := K2.nx N3 (fun c hc => by rw [List.mem_singleton.mp hc]; exact ⟨.inl ha, hnc⟩)
  obtain ⟨c, hc, fc, ⟨v0, hv0⟩, ap⟩ := F3.own (Str.ofString "mycmp") (List.mem_singleton_self _)
  obtain ⟨v, e, hh⟩ := hv (Str.ofString "mycmp") (isV (.ref f)) rfl
  cases e
  have hcell : s3.heap.IsCell (L + 1) (some (.ref f)) := by
    rcases hh with ⟨hk, _⟩ | ⟨_, c', hc', _, hcc⟩
    · exact nomatch hk
    · cases hc'; exact hcc
  have hcm : c = L + 1 := by cases hc; rfl
  have hlt := (F.lc (Str.ofString "mycmp") c hc).1
  rw [hcm] at fc hlt
  show wpAny _ _ (execs _ _) _ _ _
  refine wpAny_execs_cons (wpAny_Return_some ((EV.name (P := isV (.ref C)) : EV w b A₁ _ _ _ _) _ _ _ _ _ _ F3 fun v' s4 N4 p4 => ?_))
  cases p4
  have N04 : Nx b [] s s4 := F3.nx.tr N4
  refine r1 _ _ (h C (L + 1) _ _ _ s4 N04 ?_ (K3.nx N4 (fun _ h => nomatch h)) F.nx.sz (Nat.le_trans N3.sz N4.sz) (cell_nx hcell N4 (Nat.lt_of_lt_of_le (st.lt W) fc)) fc hlt)
  exact ⟨⟨_, _, _, _, _, fun _ _ _ _ => rfl⟩, ⟨_, _, _, _, _, _, _, _, _, _, _, _, fun _ _ _ _ => rfl⟩⟩
end
end Mine
end -- C10
section -- C11
/-! C11: what is looked up upon K; K(word) -/
set_option maxRecDepth 100000
namespace Mine
open PySem PySem.W PySem.Calls PyProof.Rows Builtin Builtin.ObjectAttr Builtin.Getset_descriptor
set_option maxHeartbeats 2000000
noncomputable def A0 : Around := { handled := none, depth := 900, frames := none, guards := none, units := 500 }
theorem mem_keep {h0 h : Heap} {news : List (Addr × Obj)} (D : PySem.W.X.Mem h0 h [] news) : ∀ a o, h0.get? a = some o → h.get? a = some o := fun a o e => D.keep a o e (by show (PySem.W.X.hasCls o || true) = true; exact Bool.or_true _)
section
variable {w : World} {A : Around} {E : Value → Shared → Prop} {s s₀ : Shared} {b : Heap} {mg mb : Str → Option Value} {bm : Addr} {ob : Obj} {env : Env} {C : Addr} {r' : Option Value} {h : Heap}
theorem wpAny_low {α : Type} {M : Model} {B : Around} {t : Sem α} {Q : α → Shared → Prop} (h : wpAny M B t Q E s) (e1 : A.handled = B.handled) (e2 : A.depth ≤ B.depth) (e3 : A.units ≤ B.units) (e4 : B.frames = none) (e5 : B.guards = none) : wpAny M A t Q E s :=
  fun Γ p hΓ => h Γ p ⟨hΓ.1.trans e1, Nat.le_trans hΓ.2.1 e2, fun l e => (by rw [e4] at e; cases e), fun l e => (by rw [e5] at e; cases e), Nat.le_trans hΓ.2.2.2.2 e3⟩

/-- an object of K over a str -/
noncomputable def InstK (h : Heap) (x C : Addr) (wd : Str) (t : Tok) : Prop := ∃ o, h.get? x = some o ∧ o.cls = .ref C ∧ o.data = .plain ∧ o.slots = #[some (.str wd t)]
theorem K_look {r : Option Value} {name : Str} {bt ns : Addr} {tn tq : Tok} {on : Obj} {Q : Option Value → Shared → Prop} (e1 : s.heap.get? C = some (clsO w bt ns C tn tq)) (e2 : s.heap.get? ns = some on)
    (e : nsLook name on = pure r) (hr : r = none → builtinOwn "object" name = r') (h : Q (r.orElse fun _ => r') s) : wpAny (model PW w) A (typeLookup (.ref C) name) Q E s := by
  have cd : ∀ {Q : ClassData → Shared → Prop}, Q (cd2 ns qnK C) s → wpAny (model PW w) A (classData C) Q E s := fun h => by
    unfold classData
    exact wpAny_bind (wpAny_load e1 (wpAny_pure h))
  unfold typeLookup
  refine wpAny_bind (wpAny_bind (cd (wpAny_pure (wpAny_bind (wpAny_forCons rfl ?_)))))
  refine wpAny_bind (wpAny_bind (cd (wpAny_nsGetO e2 e ?_)))
  cases r with
  | some v => exact wpAny_pure (wpAny_pure h)
  | none =>
    refine wpAny_pure (wpAny_forCons rfl (wpAny_bind (wpAny_pure ?_)))
    rw [hr rfl]
    cases r' with
    | none => exact wpAny_pure (wpAny_forNil rfl (wpAny_pure h))
    | some v => exact wpAny_pure (wpAny_pure h)
theorem looks_K {r : Option Value} {name : Str} {bt ns : Addr} {tn tq : Tok} {on : Obj} (e1 : h.get? C = some (clsO w bt ns C tn tq)) (e2 : h.get? ns = some on)
    (e : nsLook name on = pure r) (hr : r = none → builtinOwn "object" name = r') : Looks (model PW w) h (typeLookup (.ref C) name) (r.orElse fun _ => r') := fun A Q E s' k q => K_look (s := s') (k _ _ e1) (k _ _ e2) e hr q

theorem type_call_look : typeLookup (.type "type") "__call__" = pure (some (.builtin "type.__call__")) := by rw [typeLookup_type, builtinLookup_eq_fast]; kernel_rfl
theorem mro_K {bt ns : Addr} {tn tq : Tok} (e1 : h.get? C = some (clsO w bt ns C tn tq)) : Looks (model PW w) h (mroOf (.ref C)) [.ref C, .type "object"] := ((Looks.ld (part := none) e1).andThen .now).andThen .now
theorem sub_K {bt ns : Addr} {tn tq : Tok} {v : Value} (e1 : h.get? C = some (clsO w bt ns C tn tq)) (hv : [Value.ref C, .type "object"].contains v = true) : Looks (model PW w) h (isSubtype (.ref C) v) true := by
  unfold isSubtype
  refine (mro_K e1).andThen ?_
  dsimp only
  rw [hv]
  exact .now
theorem makes_K {bt ns : Addr} {tn tq : Tok} (e1 : h.get? C = some (clsO w bt ns C tn tq)) : Makes (model PW w) h C := by
  have hm := mro_K e1
  have made : Looks (model PW w) h (Bind.madeBy (.ref C)) (some "object.__new__") := by
    intro A Q E s k q
    unfold Bind.madeBy
    refine wpAny_bind (hm A _ E s k ?_)
    rw [List.forIn_cons]
    refine wpAny_bind (wpAny_bind (wpAny_bind (wpAny_bind (wpAny_loadPart (k _ _ e1) (wpAny_pure ?_)))))
    exact wpAny_pure (wpAny_pure (wpAny_pure q))
  have Lt : Looks (model PW w) h (typeOf (.ref C)) (.type "type") := (Looks.ld e1).andThen .now
  refine ⟨⟨_, _, _, _, e1, rfl, rfl, rfl⟩, made, ?_, sub_K e1 (by simp), sub_K e1 (by simp), Lt.andThen (Looks.of_pure type_call_look), Lt.andThen (Looks.of_pure tc_sub)⟩
  intro A Q E s k q
  unfold Bind.staticBase
  refine wpAny_bind (hm A _ E s k ?_)
  rw [List.forIn_cons]
  exact wpAny_bind (wpAny_bind (wpAny_bind (made A _ E s k (wpAny_pure (wpAny_pure (wpAny_pure q))))))
end
end Mine
end -- C11
section -- C12
/-! C12: K(word) -/
set_option maxRecDepth 100000
namespace Mine
open PySem PySem.W PySem.Calls PyProof.Rows Builtin Builtin.ObjectAttr Builtin.Getset_descriptor
set_option maxHeartbeats 2000000
section
variable {w : World} {A : Around} {E : Value → Shared → Prop} {s s₀ : Shared} {b : Heap} {mg mb : Str → Option Value} {bm : Addr} {ob : Obj} {env : Env} {C : Addr} {R : Result → Shared → Prop}


/-- the member descriptor stores into the one slot -/
theorem K_slotset {ns md bt x : Addr} {tn tq t1 tx : Tok} {wd : Str} {od : Option Addr} (e1 : s.heap.get? C = some (clsO w bt ns C tn tq)) (e3 : s.heap.get? md = some (mdO t1 C)) (ex : s.heap.get? x = some ⟨.ref C, od, .plain, #[]⟩)
    (h : R (.ok (.ret .none)) { s with heap := s.heap.update x fun o => { o with slots := (o.slots ++ Array.replicate (0 + 1 - o.slots.size) none).setIfInBounds 0 (some (.str wd tx)) } }) :
    codeAny (model PW w) A (.call (.builtin "member_descriptor.__set__") ⟨[.ref md, .ref x, .str wd tx], []⟩) R s := by
  obtain ⟨hh, g, dr, t, os⟩ := s
  dsimp only at e1 e3 ex
  have L0 : Looks (model PW w) hh (typeOf (.ref x)) (.ref C) := (Looks.ld ex).andThen .now
  have L1 : Looks (model PW w) hh (isSubtype (.ref C) (.ref C)) true := sub_K e1 (by simp)
  have L2 : Looks (model PW w) hh (Slots.slotNamesOf (.ref C)) [Str.ofString "obj"] := ((Looks.ld (part := none) e1).andThen .now).andThen .now
  have f0 := looks_field (M := model PW w) e3 0 (v := .str (Str.ofString "obj") t1) rfl
  have f1 := looks_field (M := model PW w) e3 1 (v := .ref C) rfl
  have f3 := looks_field (M := model PW w) e3 3 (v := .builtin "proto.slot#set") rfl
  have f4 := looks_field (M := model PW w) e3 4 (v := rawInt 0) rfl
  refine codeAny_call_builtin KF.slot_mset.plain KF.entry_mset (KF.slot_mset.check _ _ _ _ _ _ _ _ ⟨_, e3, rfl⟩ (KF.args_mset _ _ _) ?_)
  unfold Builtin.«member_descriptor.__set__» descrSet descrStoreThrough descrCheckInstance descrNameAndClass isInstance
  have f5 : Looks (model PW w) hh (descrItself (.ref md)) [.ref md] := ((Looks.ld (part := none) e3).andThen .now).andThen (Looks.of_pure (by kernel_rfl))
  repeat lk
  refine ⟨Code.quiet_builtin _ (by decide +kernel), codeAny_builtin KF.entry_slotset ?_⟩
  unfold Builtin.«proto.slot#set» Slots.target
  repeat lk
  exact wpAny_updatePart ex (wpAny_pure h)

theorem K_osa {ns md bt x : Addr} {tn tq t1 tx tk : Tok} {wd : Str} {od : Option Addr} {on : Obj} (e1 : s.heap.get? C = some (clsO w bt ns C tn tq)) (e2 : s.heap.get? ns = some on) (e3 : s.heap.get? md = some (mdO t1 C)) (ex : s.heap.get? x = some ⟨.ref C, od, .plain, #[]⟩)
    (q2 : nsLook (Str.ofString "obj") on = pure (some (.ref md)))
    (h : R (.ok (.ret .none)) { s with heap := s.heap.update x fun o => { o with slots := (o.slots ++ Array.replicate (0 + 1 - o.slots.size) none).setIfInBounds 0 (some (.str wd tx)) } }) :
    codeAny (model PW w) A (.call (.builtin "object.__setattr__") ⟨[.ref x, .str (Str.ofString "obj") tk, .str wd tx], []⟩) R s := by
  have Lx : Looks (model PW w) s.heap (typeOf (.ref x)) (.ref C) := (Looks.ld ex).andThen .now
  have Lo := looks_K (w := w) (r := some (.ref md)) (r' := none) (name := Str.ofString "obj") e1 e2 q2 (fun q => nomatch q)
  have Lm : Looks (model PW w) s.heap (typeOf (.ref md)) (.type "member_descriptor") := (Looks.ld e3).andThen .now
  have SF := PySem.F.store_object
  have sub : Looks (model PW w) s.heap (isInstance (.ref x) (.type "object")) true := Lx.andThen (sub_K e1 (by simp))
  have L4 : Looks (model PW w) s.heap (takesStores (.ref md)) true := by
    unfold takesStores specialOf
    refine (Lm.andThen (Looks.of_pure KF.slot_mset.lookup)).andThen ?_
    exact .now
  have L3 : Looks (model PW w) s.heap (storeTaker? (some (.ref md))) (some (.ref md)) := by
    unfold storeTaker?
    refine L4.andThen ?_
    exact .now
  refine codeAny_call_builtin SF.slot.plain SF.entry (@check_slot (model PW w) _ _ s "object.__setattr__" "object" "__setattr__" (.ref x) [.str (Str.ofString "obj") tk, .str wd tx] [] _ SF.kind SF.split sub (SF.args (.ref x) (.str (Str.ofString "obj") tk) (.str wd tx)) ?_)
  rw [osa_eq, refuse_eq]
  refine wpAny_bind (wpAny_bind (Lx.here (wpAny_bind ((mro_K e1).here ?_))))
  rw [refuse_only _ (by rfl)]
  refine wpAny_pure (wpAny_bind (Lx.here (wpAny_bind (Lo.here (wpAny_bind (L3.here ?_))))))
  show wpAny _ _ (setByDescriptor (.ref md) (.ref x) (.str wd tx)) _ _ _
  unfold setByDescriptor
  refine wpAny_bind (wpAny_rule (wpAny_bind (wpAny_holding (wpAny_bind (wpAny_bind (Lm.here ((Looks.of_pure KF.slot_mset.lookup).here (wpAny_holding ?_))))))))
  rw [KF.slot_mset.bind]
  refine wpAny_bind (wpAny_pure (wpAny_bind (wpAny_call ?_)))
  exact K_slotset e1 e3 ex (wpAny_pure (wpAny_pure h))
/-- x.obj = v, x new -/
theorem K_store {ns md bt x : Addr} {tn tq t1 tx : Tok} {wd : Str} {od : Option Addr} {on : Obj} {Q : Unit → Shared → Prop} (e1 : s.heap.get? C = some (clsO w bt ns C tn tq)) (e2 : s.heap.get? ns = some on) (e3 : s.heap.get? md = some (mdO t1 C)) (ex : s.heap.get? x = some ⟨.ref C, od, .plain, #[]⟩)
    (q1 : nsLook (Str.ofString "__setattr__") on = pure none) (q2 : nsLook (Str.ofString "obj") on = pure (some (.ref md)))
    (h : Q () { s with heap := s.heap.update x fun o => { o with slots := (o.slots ++ Array.replicate (0 + 1 - o.slots.size) none).setIfInBounds 0 (some (.str wd tx)) }, toks := s.toks + 1 }) :
    wpAny (model PW w) A (setAttr (.ref x) (Str.ofString "obj") (.str wd tx)) Q E s := by
  have Lx : Looks (model PW w) s.heap (typeOf (.ref x)) (.ref C) := (Looks.ld ex).andThen .now
  have Ls := looks_K (w := w) (r := none) (r' := some (.builtin "object.__setattr__")) (name := Str.ofString "__setattr__") e1 e2 q1 (fun _ => by rw [builtinOwn_eq_fast]; kernel_rfl)
  refine wpAny_bind (wpAny_mkText (wpAny_bind (wpAny_bind (wpAny_bind (Lx _ _ _ _ (fun _ _ e => e) (Ls _ _ _ _ (fun _ _ e => e) (wpAny_holding ?_)))))))
  rw [PySem.F.store_object.slot.bind]
  refine wpAny_bind (wpAny_pure (wpAny_bind (wpAny_call ?_)))
  exact K_osa (s := { s with toks := s.toks + 1 }) e1 e2 e3 ex q2 (wpAny_pure (wpAny_pure h))

theorem K_call {cm : Addr} {FO : Nat → Value → Value → Addr → Value → Obj} {lo hi : Nat} {wd : Str} {tx : Tok} {Q : Value → Shared → Prop} (W : WW w b mg mb bm ob) (st : St b s) (hA : A.handled = none) (hD : A.depth ≤ 900) (hU : A.units ≤ 500) (K : KAt w b lo hi s.heap C FO) (ok : FOk cm FO)
    (h : ∀ x s', Nx b [] s s' → InstK s'.heap x C wd tx → s.heap.get? x = none → Q (.ref x) s') : wpAny (model PW w) A (call (.ref C) [.str wd tx]) Q E s := by
  obtain ⟨bt, ns, md, tn, tq, t1, t2, t3, KV, dc, pm, ct, c, e1, e2, e3, g1, g2, hf⟩ := K.ex
  obtain ⟨px, py, p1, p2, p3, e4⟩ := ok.init
  obtain ⟨f1, f2, f3, q, f4, r⟩ := hf 0 (by decide)
  cases f4
  rw [e4] at f1
  obtain ⟨kt, kh, sl, sa, f, n⟩ := KV
  obtain ⟨hh, g, d, t, os⟩ := s
  have Lf : Looks (model PW w) hh (typeOf (.ref (f 0))) (.type "function") := (Looks.ld f1).andThen .now
  have Li := looks_K (w := w) (r := some (.ref (f 0))) (r' := none) (name := Str.ofString "__init__") e1 e2 (by kernel_rfl) (fun q => nomatch q)
  refine wpAny_call (make_core (makes_K e1) (init := .ref (f 0)) Li (fun self => by unfold bindSpecial; exact Lf.andThen (Looks.of_pure (by kernel_rfl))) (.inl rfl) ?_)
  have N1 := Nx.push (s := ⟨hh, g, d, t, os⟩) st (o := emptyDict)
  have N2 := N1.tr (Nx.push N1.st (o := instObj C hh.objs.size))
  have ex : ((hh.push emptyDict).push (instObj C hh.objs.size)).get? (hh.objs.size + 1) = some (instObj C hh.objs.size) := by rw [← Heap.size_push (h := hh) (o := emptyDict)]; exact Heap.get?_push_size _ rfl
  have kp : ∀ a o, hh.get? a = some o → ((hh.push emptyDict).push (instObj C hh.objs.size)).get? a = some o := fun a o e => Heap.get?_push_of_some _ (Heap.get?_push_of_some _ e)
  refine codeAny_mono (codeAny_call_def (R := fun r s' => match r with | .ok (.ret v) => v = .none ∧ Q (.ref (hh.objs.size + 1)) s' | .ok _ => False | .error e => E e s') (s := ⟨(hh.push emptyDict).push (instObj C hh.objs.size), g, d, t, os⟩) (binds := [Str.ofString "self", Str.ofString "obj"].zip [.ref (hh.objs.size + 1), .str wd tx]) ?_ (kp _ _ f1) rfl (N2.st.lim W) (r.keeps kp) rfl
    (fun _ _ _ _ h => wpAny_of_eq (show bindArgs _ ⟨[.ref (hh.objs.size + 1), .str wd tx], []⟩ = pure _ from rfl) h) (by intro z hz; simp at hz; rcases hz with rfl | rfl <;> decide) (by intro z hz; simp at hz; rcases hz with rfl | rfl <;> rfl) fun h₀ hns hk₀ => ?_) (fun r s' z => ?_)
  · show A.depth + Code.weight _ < recursionLimit
    rw [show Code.weight (.builtin "type.__call__" ⟨[.ref C, .str wd tx], []⟩) = 1 by kernel_rfl]
    exact Nat.lt_of_le_of_lt (Nat.add_le_add_right hD 1) (by decide)
  · have ex' := hk₀ _ _ ex
    obtain ⟨on, es, ep, hon, _⟩ := id hns
    have N3 : Nx b [] ⟨hh, g, d, t, os⟩ ⟨h₀, g, d, t, os⟩ := N2.tr (Nx.all N2.st hk₀ rfl rfl rfl (Nat.le_of_lt (Heap.lt_size hon)))
    have gx : 232 < hh.objs.size + 1 := Nat.lt_succ_of_lt (st.lt W)
    refine wpAny_execs_cons (plainObj_wpAny_Assign_Attribute (nm_loc (v := .str wd tx) hns (nm_loc (v := .ref (hh.objs.size + 1)) hns ?_)))
    refine K_store (hk₀ _ _ (kp _ _ e1)) (hk₀ _ _ (kp _ _ e2)) (hk₀ _ _ (kp _ _ e3)) ex' (by kernel_rfl) (by kernel_rfl) (wpAny_execs_nil ⟨rfl, ?_⟩)
    have N4 := N3.trans (Nx.upd (f := fun o => { o with slots := (o.slots ++ Array.replicate (0 + 1 - o.slots.size) none).setIfInBounds 0 (some (.str wd tx)) }) N3.st gx (st.fresh (Nat.le_succ _)) (fun o e => by rw [ex'] at e; cases e; rfl)) (Z := []) (fun _ h => nomatch h) (fun c hc => .inr (by rw [List.mem_singleton.mp hc]; exact Nat.le_succ _))
    refine h _ _ N4.toks ⟨_, Heap.get?_update_self _ ex' rfl, rfl, rfl, rfl⟩ ?_
    cases q : hh.get? (hh.objs.size + 1) with
    | none => rfl
    | some o => exact absurd (Heap.lt_size q) (Nat.not_lt.mpr (Nat.le_succ _))
  · rcases r with e | (v | _ | _ | _) <;> exact z
end
end Mine
end -- C12
section -- C13
/-! C13: x.obj of an object of K -/
set_option maxRecDepth 100000
namespace Mine
open PySem PySem.W PySem.W.X PySem.Calls PyProof.Rows
set_option maxHeartbeats 0
noncomputable abbrev PA (x : Str) (tx : Tok) (h0 : Heap) (gens : Array GenState) (d : Drawn) (os : OsState) (v : Value) (s' : Shared) : Prop :=
  v = .str x tx ∧ (∀ a o, h0.get? a = some o → s'.heap.get? a = some o) ∧ s'.gens = gens ∧ s'.drawn = d ∧ s'.os = os
theorem closeA {x : Str} {tx : Tok} {h0 : Heap} {gens : Array GenState} {d : Drawn} {t : Nat} {os : OsState} {v : Value} (e : v = .str x tx) : PA x tx h0 gens d os v ⟨h0, gens, d, t, os⟩ := ⟨e, fun _ _ e => e, rfl, rfl, rfl⟩
local macro_rules | `(tactic| x_close) => `(tactic| exact closeA (by kernel_rfl))
theorem atK1 {P : Program} {w : World} {h0 : Heap} {gens : Array GenState} {d : Drawn} {t : Nat} {os : OsState} (X : Frag.In (hdk.heap_1 w.params) h0)
   {C ns md bt sl sa x : Addr} {f : Nat → Addr} {kt : Nat → Tok} {kh : Nat → Int} {tn tq t1 t2 t3 tx tn' : Tok} {wd : Str} {n : Int} {od : Option Addr}
   (e1 : h0.get? C = some ⟨.type "type", none, .cls (cd2 ns qnK C), #[some (.ref bt), none, some (.str Ks tn), some (.str qnK tq), some (.builtin "object.__new__"), some (.bool false)]⟩)
   (e2 : h0.get? ns = some ⟨.type "dict", none, .dict (((ents2 ⟨kt, kh, sl, sa, f, n⟩ moK).push (eO w t2 md)).push (eD w t3)) 3, #[]⟩)
   (e3 : h0.get? md = some ⟨.type "member_descriptor", none, .fields #[.str (Str.ofString "obj") t1, .ref C, .builtin "proto.slot", .builtin "proto.slot#set", rawInt 0], #[]⟩)
   (e4 : h0.get? x = some ⟨.ref C, od, .plain, #[some (.str wd tx)]⟩) (E : Value → Shared → Prop) :
    wpAny (model P w) A0 (runValue (.builtin "proto.getattr_hooked" ⟨[.ref x, .str (Str.ofString "obj") tn'], []⟩)) (PA wd tx h0 gens d os) E ⟨h0, gens, d, t, os⟩ := by
  x_run
end Mine
end -- C13
section -- C14
/-! C14: functions that stand in the heap: a lambda, and a def with a closure -/
set_option maxRecDepth 100000
namespace Mine
open PySem PySem.W PySem.Calls PyProof.Rows Builtin
set_option maxHeartbeats 2000000
section
variable {w : World} {A : Around} {E : Value → Shared → Prop} {s s₀ : Shared} {b : Heap} {mg mb : Str → Option Value} {bm : Addr} {ob : Obj} {env : Env} {B : List Addr}

/-- the frame of a function that stands in the heap -/
theorem frameH {fd : FuncData} {ns : List Str} {Ps : List VP} {vs : List Value} {f : Addr} {h₀ : Heap} {GC : List (Str × VP)} (W : WW w b mg mb bm ob) (st : St b s) (lB : ∀ d ∈ B, d < s.heap.objs.size) (ar : AllR B s.heap Ps vs)
    (hgl : fd.globals = mainGlobals) (hbl : fd.builtins = builtinsNs) (hrev : ∀ x v, (ns.zip vs).lookup x = some v → (ns.zip vs).reverse.lookup x = some v) (hloc : ∀ x ∈ ns, fd.scope.names.lookup x = some .local)
    (hcl : ∀ y c, fd.closure.lookup y = some c → c < s.heap.objs.size ∧ 232 < c)
    (hGC : ∀ x P, GC.lookup x = some P → fd.scope.names.lookup x = some .free ∧ x ∉ ns ∧ ∃ c v, fd.closure.lookup x = some c ∧ s.heap.IsCell c (some v) ∧ P.p B v s.heap)
    (hk : fd.scope.kind = .function) (hns : h₀.Ns s.heap.objs.size (fun x => (ns.zip vs).reverse.lookup x)) (hk₀ : ∀ b o, s.heap.get? b = some o → h₀.get? b = some o) :
    Fm b [] B (callEnv fd s.heap.objs.size f) s (ns.zip Ps ++ GC) { s with heap := h₀, toks := s.toks + (ns.zip vs).length } := by
  have hsz : s.heap.objs.size < h₀.objs.size := hns.lt
  have N : Nx b [] s { s with heap := h₀, toks := s.toks + (ns.zip vs).length } := Nx.all st hk₀ rfl rfl rfl (Nat.le_of_lt hsz)
  refine ⟨N, hk, hgl, hbl, st.lt W, Nat.le_refl _, fun a ha => st.fresh ha, fun d hd => Nat.lt_of_lt_of_le (lB d hd) N.sz, fun y c e => ?_, (fun x hx => nomatch hx), ?_⟩
  · obtain ⟨h1, h2⟩ := hcl y c e
    exact ⟨Nat.lt_of_lt_of_le h1 N.sz, h2⟩
  · refine ⟨_, hns, fun x P e => ?_⟩
    by_cases hx : ∃ P', (ns.zip Ps).lookup x = some P'
    · obtain ⟨P', hP'⟩ := hx
      have e' : P' = P := by
        rw [List.lookup_append, hP'] at e
        simpa using e
      subst e'
      obtain ⟨v, hv, hp⟩ := zip_val ar hP'
      have hxn : x ∈ ns := (List.of_mem_zip (_root_.PySem.mem_of_lookup hP')).1
      refine ⟨v, P'.st (Mv.of0 N) hp, .inl ⟨hloc x hxn, ?_⟩⟩
      exact hrev _ _ hv
    · have hn : (ns.zip Ps).lookup x = none := by
        cases q : (ns.zip Ps).lookup x with
        | none => rfl
        | some P' => exact absurd ⟨P', q⟩ hx
      rw [List.lookup_append, hn] at e
      obtain ⟨h1, h2, c, v, h3, h4, h5⟩ := hGC x P (by simpa using e)
      exact ⟨v, P.st (Mv.of0 N) h5, .inr ⟨.inr h1, c, h3, (hcl x c h3).2, cell_nx h4 N (hcl x c h3).2⟩⟩
theorem rev2 {a b : Str} {u v : Value} (h : (b == a) = false) : ∀ x y, ([a, b].zip [u, v]).lookup x = some y → ([a, b].zip [u, v]).reverse.lookup x = some y := fun x y e => by
  show List.lookup x [(b, v), (a, u)] = some y
  have e' : List.lookup x [(a, u), (b, v)] = some y := e
  simp only [List.lookup_cons, List.lookup_nil] at e' ⊢
  cases h1 : x == a with
  | true =>
    rw [h1] at e'
    have hx : x = a := by simpa using h1
    subst hx
    have h2 : (x == b) = false := by
      cases q : x == b with
      | false => rfl
      | true => rw [show x = b by simpa using q] at h; simp at h
    rw [h2]; exact e'
  | false =>
    rw [h1] at e'
    cases h2 : x == b with
    | true => rw [h2] at e'; exact e'
    | false => rw [h2] at e'; exact e'

noncomputable abbrev scLam : Scope := ⟨.function, [(Str.ofString "one", .local), (Str.ofString "other", .local), (Str.ofString "order", .free)], false, false, []⟩
noncomputable abbrev bdLam (p1 p3 p4 p5 p7 p9 p10 p11 p13 : Pos) (k1 k2 a1 a2 a3 a4 a5 b1 b2 b3 b4 b5 : Nat) : Expr :=
  .BinOp (.Call (.Attribute (.Name (Str.ofString "order") p1) (Str.ofString "find") ⟨163, a1, 163, a2⟩) [.Subscript (.Name (Str.ofString "one") p3) (.Constant (.int 0) k1 p4) p5] [] ⟨163, a3, a4, a5⟩) .Sub
    (.Call (.Attribute (.Name (Str.ofString "order") p7) (Str.ofString "find") ⟨163, b1, 163, b2⟩) [.Subscript (.Name (Str.ofString "other") p9) (.Constant (.int 0) k2 p10) p11] [] ⟨163, b3, b4, b5⟩) p13
/-- the key's comparison, lambda one, other: order.find(one[0]) - order.find(other[0]) -/
structure Lam (h : Heap) (fl : Addr) (o : Str) : Prop where
  ex : ∃ (name qual : Str) (pm ctv : Value) (c' oc : Addr) (t : Tok) (px py p1 p3 p4 p5 p7 p9 p10 p11 p13 : Pos) (k1 k2 a1 a2 a3 a4 a5 b1 b2 b3 b4 b5 : Nat), h.get? fl = some (kla_obj name qual (args2 (Str.ofString "one") (Str.ofString "other") px py)
    (bdLam p1 p3 p4 p5 p7 p9 p10 p11 p13 k1 k2 a1 a2 a3 a4 a5 b1 b2 b3 b4 b5) scLam [(Str.ofString "order", oc)] pm c' ctv) ∧ h.CodeRec (.ref c') qual ∧ 232 < c' ∧ h.IsCell oc (some (.str o t)) ∧ 232 < oc ∧ 232 < fl
noncomputable def headS (x : Str) : Str := ⟨#[x.cps.getD 0 0]⟩
theorem head_at {x : Str} (hx : 1 ≤ x.length) : (seqIndex? 0 x.length).bind (x.cps[·]?) = some (x.cps.getD 0 0) := by
  have h0 : 0 < x.cps.size := hx
  have e : seqIndex? 0 x.length = some 0 := by
    unfold seqIndex?
    have : x.length ≠ 0 := Nat.ne_of_gt hx
    simp [this]
  rw [e]
  simp [Array.getD, h0]
theorem lam_call {fl : Addr} {o x y : Str} {t1 t2 : Tok} {Q : Value → Shared → Prop} (W : WW w b mg mb bm ob) (st : St b s) (hA : A.handled = none) (hD : A.depth < 900) (L : Lam s.heap fl o) (hx : 1 ≤ x.length) (hy : 1 ≤ y.length)
    (h : ∀ t s', Nx b [] s s' → Q (.int (Txt.find o (headS x) - Txt.find o (headS y)) t) s') : wpAny (model PW w) A (call (.ref fl) [.str x t1, .str y t2]) Q E s := by
  obtain ⟨name, qual, pm, ctv, c', oc, t, px, py, p1, p3, p4, p5, p7, p9, p10, p11, p13, k1, k2, a1, a2, a3, a4, a5, b1, b2, b3, b4, b5, e, r, gc, hc, go, gf⟩ := L.ex
  have hloc : oc < s.heap.objs.size := by obtain ⟨o, e, _⟩ := hc; exact Heap.lt_size e
  refine wpAny_call (kla_callFunE (Nat.lt_trans hD (by decide)) e rfl rfl rfl rfl r ?_)
  refine wpAny_of_eq (show bindArgs _ ⟨[.str x t1, .str y t2], []⟩ = pure ([Str.ofString "one", Str.ofString "other"].zip [.str x t1, .str y t2]) from rfl) ?_
  refine wpAny_newFunctionEnv (by intro z hz; simp at hz; rcases hz with rfl | rfl | rfl <;> decide) (by intro z hz; simp at hz; rcases hz with rfl | rfl <;> rfl) (fun h₀ hns hsb => ⟨(st.lim W).fresh _ hsb, ?_⟩) rfl
  have hk₀ : ∀ b o, s.heap.get? b = some o → h₀.get? b = some o := fun b o e => hsb.extBut b o (Nat.ne_of_lt (Heap.lt_size e)) (Heap.get?_push_of_some _ e)
  have F := frameH (B := []) (fd := kla_fn name qual (args2 (Str.ofString "one") (Str.ofString "other") px py) (bdLam p1 p3 p4 p5 p7 p9 p10 p11 p13 k1 k2 a1 a2 a3 a4 a5 b1 b2 b3 b4 b5) scLam [(Str.ofString "order", oc)] pm (.ref c') ctv) (ns := [Str.ofString "one", Str.ofString "other"]) (Ps := [strV x, strV y]) (vs := [.str x t1, .str y t2]) (f := fl) (h₀ := h₀) (GC := [(Str.ofString "order", strV o)]) W st (fun _ h => nomatch h) ⟨⟨_, rfl⟩, ⟨_, rfl⟩, trivial⟩ rfl rfl (rev2 (by decide)) (by intro z hz; simp at hz; rcases hz with rfl | rfl <;> rfl)
    (fun y c e => ?_) (fun z P e => ?_) rfl hns hk₀
  rotate_left
  · have e' : List.lookup y [(Str.ofString "order", oc)] = some c := e
    rw [List.lookup_cons] at e'
    split at e'
    · cases e'; exact ⟨hloc, go⟩
    · cases e'
  · rw [List.lookup_cons] at e
    split at e
    · rename_i q
      have q' : z = Str.ofString "order" := by simpa using q
      subst q'
      cases e
      exact ⟨rfl, by decide, oc, _, rfl, hc, ⟨t, rfl⟩⟩
    · cases e
  refine kla_codeExpr ?_
  have ev : ∀ {A' : Around}, EV w b A' (callEnv (kla_fn name qual (args2 (Str.ofString "one") (Str.ofString "other") px py) (bdLam p1 p3 p4 p5 p7 p9 p10 p11 p13 k1 k2 a1 a2 a3 a4 a5 b1 b2 b3 b4 b5) scLam [(Str.ofString "order", oc)] pm (.ref c') ctv) s.heap.objs.size fl)
      ([Str.ofString "one", Str.ofString "other"].zip [strV x, strV y] ++ [(Str.ofString "order", strV o)]) (bdLam p1 p3 p4 p5 p7 p9 p10 p11 p13 k1 k2 a1 a2 a3 a4 a5 b1 b2 b3 b4 b5) (intV (Txt.find o (headS x) - Txt.find o (headS y))) := fun {A'} =>
    EV.sub (EV.find .name (EV.itemS .name .int rfl (head_at hx))) (EV.find .name (EV.itemS .name .int rfl (head_at hy)))
  exact ev [] [] _ _ _ _ F fun v s' N ⟨t, e⟩ => by subst e; exact h t s' (F.nx.tr N)
end
end Mine
end -- C14
section -- C15
/-! C15: the sort's question between two keys -/
set_option maxRecDepth 100000
namespace Mine
open PySem PySem.W PySem.Calls PyProof.Rows Builtin
set_option maxHeartbeats 2000000
section
variable {w : World} {A : Around} {E : Value → Shared → Prop} {s s₀ : Shared} {b : Heap} {mg mb : Str → Option Value} {bm : Addr} {ob : Obj} {env : Env} {B : List Addr} {O : List Str} {G : List (Str × VP)} {C cm fl lo hi : Addr} {FO : Nat → Value → Value → Addr → Value → Obj}

theorem K_type {x : Addr} {wd : Str} {t : Tok} {Q : Value → Shared → Prop} (I : InstK s.heap x C wd t) (h : Q (.ref C) s) : wpAny (model PW w) A (typeOf (.ref x)) Q E s := by
  obtain ⟨o, e, hc, _⟩ := I
  exact Looks.here (show Looks (model PW w) s.heap (typeOf (.ref x)) o.cls from (Looks.ld e).andThen .now) (by rw [hc]; exact h)

/-- x.obj -/
theorem obj_K {x : Addr} {wd : Str} {t : Tok} {Q : Value → Shared → Prop} (W : WW w b mg mb bm ob) (st : St b s) (hA : A.handled = none) (hD : A.depth ≤ 900) (hU : A.units ≤ 500) (K : KAt w b lo hi s.heap C FO) (I : InstK s.heap x C wd t)
    (h : ∀ s', Nx b [] s s' → Q (.str wd t) s') : wpAny (model PW w) A (getAttr (.ref x) (Str.ofString "obj") true) Q E s := by
  obtain ⟨bt, ns, md, tn, tq, t1, t2, t3, KV, dc, pm, ct, c, e1, e2, e3, g1, g2, hf⟩ := K.ex
  unfold getAttr getAttrBy
  refine wpAny_bind (wpAny_mkText (wpAny_holding (wpAny_bind (K_type (C := C) (wd := wd) (t := t) I (wpAny_bind (K_look (C := C) (r := none) (r' := some (.builtin "object.__getattribute__")) e1 e2 ?_ ?_ ?_))))))
  · kernel_rfl
  · intro _; kernel_rfl
  show wpAny _ _ (if (onTheHeap (.ref C) && (Value.builtin "object.__getattribute__") == .builtin "object.__getattribute__") = true then _ else _) _ _ _
  refine wpAny_ifT (by rfl) ?_
  unfold getAttrEveryday
  obtain ⟨o, i0, i1, i2, i3⟩ := I
  obtain ⟨oc, od, dt, osl⟩ := o
  cases i1; cases i2; cases i3
  obtain ⟨kt, kh, sl, sa, f, n⟩ := KV
  obtain ⟨hh, g, d, tk, os⟩ := s
  refine wpAny_bind (wpAny_onRaise (wpAny_size (Nat.le_refl _) (wpAny_low (B := A0) ?_ hA hD hU rfl rfl)))
  refine wpAny_mono (atK1 (E := _) (sl := sl) (sa := sa) (kt := kt) (kh := kh) (n := n) (t2 := t2) (t3 := t3) (f := f) (st.k W) e1 (e2.trans ?_) e3 i0) (fun v s' hv hsz => ?_) fun _ _ e => e
  · rfl
  obtain ⟨rfl, hk, k1, k2, k3⟩ := hv
  exact wpAny_pure (h s' (Nx.all st hk k1 k2 k3 hsz))

theorem InstK.nx {s s' : Shared} {x : Addr} {wd : Str} {t : Tok} (I : InstK s.heap x C wd t) (N : Nx b [] s s') (g : x ∉ tabs) : InstK s'.heap x C wd t :=
  let ⟨o, e, r⟩ := I; ⟨o, N.kp _ _ g (fun h => nomatch h) e, r⟩
theorem Lam.nx {s s' : Shared} {o : Str} (L : Lam s.heap fl o) (N : Nx b [] s s') : Lam s'.heap fl o := by
  obtain ⟨name, qual, pm, ctv, c', oc, t, px, py, p1, p3, p4, p5, p7, p9, p10, p11, p13, k1, k2, a1, a2, a3, a4, a5, b1, b2, b3, b4, b5, e, r, gc, hc, go, gf⟩ := L.ex
  refine ⟨name, qual, pm, ctv, c', oc, t, px, py, p1, p3, p4, p5, p7, p9, p10, p11, p13, k1, k2, a1, a2, a3, a4, a5, b1, b2, b3, b4, b5, N.kp _ _ (notab_of gf) (fun h => nomatch h) e, ?_, gc, cell_nx hc N go, go, gf⟩
  obtain ⟨c, o, vs, t, e', g', d, r⟩ := r
  cases e'
  exact ⟨_, o, vs, t, rfl, N.kp _ _ (notab_of gc) (fun h => nomatch h) g', d, r⟩
theorem KAt.nx0 {s s' : Shared} (K : KAt w b lo hi s.heap C FO) (N : Nx b [] s s') : KAt w b lo hi s'.heap C FO := K.nx N (fun _ h => nomatch h)
theorem Lam.fn {h : Heap} {o : Str} (L : Lam h fl o) : FnAt fl h := by
  obtain ⟨name, qual, pm, ctv, c', oc, t, px, py, p1, p3, p4, p5, p7, p9, p10, p11, p13, k1, k2, a1, a2, a3, a4, a5, b1, b2, b3, b4, b5, e, r⟩ := L.ex
  exact ⟨_, _, _, _, e⟩

noncomputable abbrev bdLt (p1 p2 p3 p4 p5 p6 p7 p8 p9 : Pos) (k : Nat) : List Stmt := [.Return (some (.Compare (.Call (.Name (Str.ofString "mycmp") p1) [.Attribute (.Name (Str.ofString "self") p2) (Str.ofString "obj") p3, .Attribute (.Name (Str.ofString "other") p4) (Str.ofString "obj") p5] [] p6) [.Lt] [.Constant (.int 0) k p7] p8)) p9]
/-- x < y of two keys -/
theorem lt_call {x y f1 : Addr} {o wx wy : Str} {tx ty : Tok} {Q : Value → Shared → Prop} {d p : Value} {c1 : Addr} {ct : Value} (W : WW w b mg mb bm ob) (st : St b s) (hA : A.handled = none) (hD : A.depth < 890) (hU : A.units ≤ 400) (K : KAt w b lo hi s.heap C FO) (ok : FOk cm FO)
    (ef : s.heap.get? f1 = some (FO 1 d p c1 ct)) (rf : s.heap.CodeRec (.ref c1) (qM "__lt__"))
    (hc : s.heap.IsCell cm (some (.ref fl))) (gcm : 232 < cm) (L : Lam s.heap fl o) (Ix : InstK s.heap x C wx tx) (Iy : InstK s.heap y C wy ty) (gx : x ∉ tabs) (gy : y ∉ tabs) (hx : 1 ≤ wx.length) (hy : 1 ≤ wy.length)
    (h : ∀ s', Nx b [] s s' → Q (.bool (decide (Txt.find o (headS wx) - Txt.find o (headS wy) < 0))) s') : wpAny (model PW w) A (call (.ref f1) [.ref x, .ref y]) Q E s := by
  obtain ⟨px, py, p1, p2, p3, p4, p5, p6, p7, p8, p9, k, e4⟩ := ok.lt
  rw [e4] at ef
  have hloc : cm < s.heap.objs.size := by obtain ⟨o, e, _⟩ := hc; exact Heap.lt_size e
  refine wpAny_call (codeAny_call_def (binds := [Str.ofString "self", Str.ofString "other"].zip [.ref x, .ref y]) (Nat.lt_trans hD (by decide)) ef rfl (st.lim W) rf rfl (fun _ _ _ _ h => wpAny_of_eq (show bindArgs _ ⟨[.ref x, .ref y], []⟩ = pure _ from rfl) h) (by intro z hz; simp at hz; rcases hz with rfl | rfl | rfl <;> decide) (by intro z hz; simp at hz; rcases hz with rfl | rfl <;> rfl) fun h₀ hns hk₀ => ?_)
  have F := frameH (B := []) (fd := fnX (Str.ofString "__lt__") (qM "__lt__") (args2 (Str.ofString "self") (Str.ofString "other") px py) (bdLt p1 p2 p3 p4 p5 p6 p7 p8 p9 k) scLt [(Str.ofString "mycmp", cm)] .none .none d p none (.ref c1) ct) (ns := [Str.ofString "self", Str.ofString "other"]) (Ps := [isV (.ref x), isV (.ref y)]) (vs := [.ref x, .ref y]) (f := f1) (h₀ := h₀) (GC := [(Str.ofString "mycmp", isV (.ref fl))]) W st (fun _ h => nomatch h) ⟨rfl, rfl, trivial⟩ rfl rfl (rev2 (by decide)) (by intro z hz; simp at hz; rcases hz with rfl | rfl <;> rfl)
    (fun y c e => ?_) (fun z P e => ?_) rfl hns hk₀
  rotate_left
  · have e' : List.lookup y [(Str.ofString "mycmp", cm)] = some c := e
    rw [List.lookup_cons] at e'
    split at e'
    · cases e'; exact ⟨hloc, gcm⟩
    · cases e'
  · rw [List.lookup_cons] at e
    split at e
    · rename_i q
      have q' : z = Str.ofString "mycmp" := by simpa using q
      subst q'
      cases e
      exact ⟨rfl, by decide, cm, _, rfl, hc, rfl⟩
    · cases e
  have N0 := F.nx
  refine wpAny_execs_cons (wpAny_Return_some (wpAny_Compare1 (Call_ ((EV.name (P := isV (.ref fl)) : EV w b _ _ _ _ _) _ _ _ _ _ _ F fun v s1 N1 p1 => ?_))))
  cases p1
  have F1 := F.step N1
  refine callWith_F (L.nx (N0.tr N1)).fn (spliced_more (Attribute_name ((EV.name (P := isV (.ref x)) : EV w b _ _ _ _ _) _ _ _ _ _ _ F1 fun v s2 N2 p2 => ?_)))
  cases p2
  have M2 := (N0.tr N1).tr N2
  refine obj_K W M2.st hA (Nat.le_trans (Nat.succ_le_of_lt hD) (by decide)) (Nat.le_trans (Nat.add_le_add_right hU 3) (by decide)) (K.nx0 M2) (Ix.nx M2 gx) fun s3 N3 => ?_
  refine spliced_more (Attribute_name ((EV.name (P := isV (.ref y)) : EV w b _ _ _ _ _) _ _ _ _ _ _ ((F1.step N2).step N3) fun v s4 N4 p4 => ?_))
  cases p4
  have M4 := (M2.tr N3).tr N4
  refine obj_K W M4.st hA (Nat.le_trans (Nat.succ_le_of_lt hD) (by decide)) (Nat.le_trans (Nat.add_le_add_right hU 3) (by decide)) (K.nx0 M4) (Iy.nx M4 gy) fun s5 N5 => ?_
  have M5 := M4.tr N5
  refine spliced_none ⟨(L.nx M5).fn, lam_call W M5.st hA (Nat.lt_of_le_of_lt (Nat.succ_le_of_lt hD) (by decide)) (L.nx M5) hx hy fun t s6 N6 => ?_⟩
  have M6 := M5.tr N6
  refine wpAny_Constant_int ?_
  refine PyProof.Rows.lt_int ?_
  exact h _ (M6.toks)
end
end Mine
end -- C15
section -- C16
/-! C16: sorted by K -/
set_option maxRecDepth 100000
namespace Mine
open PySem PySem.W PySem.Calls PyProof.Rows Builtin
set_option maxHeartbeats 2000000
noncomputable def runT {α : Type} (lt : Nat → Nat → Bool) : KasT α → α
  | .ret a => a
  | .ask i j k => runT lt (k (lt i j))
noncomputable def okT {α : Type} (n : Nat) : KasT α → Bool
  | .ret _ => true
  | .ask i j k => decide (i < n) && decide (j < n) && okT n (k true) && okT n (k false)
section
variable {w : World} {A : Around} {E : Value → Shared → Prop} {s s₀ : Shared} {b : Heap} {mg mb : Str → Option Value} {bm : Addr} {ob : Obj} {env : Env} {B : List Addr} {O : List Str} {G : List (Str × VP)} {C cm fl lo hi : Addr} {FO : Nat → Value → Value → Addr → Value → Obj}

theorem kas_go {α : Type} {κ : SortKind} {it : Array Keyed} {n : Nat} {lt : Nat → Nat → Bool} {I : Shared → Prop} (hask : ∀ i j (s' : Shared) (R : Bool → Shared → Prop), i < n → j < n → I s' → (∀ s'', I s'' → R (lt i j) s'') → kas_cmp PW w A κ it i j R s')
    {Q : α → Shared → Prop} : ∀ (t : KasT α) (s : Shared), okT n t = true → I s → (∀ s', I s' → Q (runT lt t) s') → t.kasWp (kas_cmp PW w A κ it) Q s
  | .ret a, s, _, hi, hq => hq s hi
  | .ask i j k, s, ok, hi, hq => by
    unfold okT at ok
    simp only [Bool.and_eq_true, decide_eq_true_eq] at ok
    refine hask i j s _ ok.1.1.1 ok.1.1.2 hi fun s'' hi' => ?_
    refine kas_go hask (k (lt i j)) s'' ?_ hi' hq
    cases lt i j with
    | true => exact ok.1.2
    | false => exact ok.2

theorem nx_upd {a : Addr} {f : Obj → Obj} (W : WW w b mg mb bm ob) (N : Nx b [] s₀ s) (st₀ : St b s₀) (ha : s₀.heap.objs.size ≤ a) (hn : NC s.heap a) : Nx b [] s₀ { s with heap := s.heap.update a f } :=
  N.trans (Nx.upd N.st (Nat.lt_of_lt_of_le (st₀.lt W) ha) (st₀.fresh ha) hn) (fun _ h => nomatch h) (fun c hc => .inr (by rw [List.mem_singleton.mp hc]; exact ha))

/-- the question, as the sort puts it -/
theorem ask_K {x y : Addr} {o wx wy : Str} {tx ty : Tok} {Q : Bool → Shared → Prop} (W : WW w b mg mb bm ob) (st : St b s) (hA : A.handled = none) (hD : A.depth < 890) (hU : A.units ≤ 400) (K : KAt w b lo hi s.heap C FO) (ok : FOk cm FO)
    (hc : s.heap.IsCell cm (some (.ref fl))) (gcm : 232 < cm) (L : Lam s.heap fl o) (Ix : InstK s.heap x C wx tx) (Iy : InstK s.heap y C wy ty) (gx : x ∉ tabs) (gy : y ∉ tabs) (hx : 1 ≤ wx.length) (hy : 1 ≤ wy.length)
    (h : ∀ s', Nx b [] s s' → Q (decide (Txt.find o (headS wx) - Txt.find o (headS wy) < 0)) s') : wpAny (model PW w) A (keyLt' oneType' (.ref x) (.ref y)) Q E s := by
  obtain ⟨bt, ns, md, tn, tq, t1, t2, t3, KV, dc, pm, ct, c, e1, e2, e3, g1, g2, hf⟩ := id K.ex
  obtain ⟨f1, f2, f3, q, f4, r⟩ := hf 1 (by decide)
  cases f4
  have f1' := f1
  obtain ⟨px, py, p1, p2, p3, p4, p5, p6, p7, p8, p9, k, e4⟩ := ok.lt
  rw [e4] at f1'
  rw [keyLt'_oneType, oneLt'_eq]
  simp only [if_true]
  refine wpAny_bind (wpAny_cRoomFor (Nat.lt_of_le_of_lt hU (by decide)) (wpAny_bind ?_))
  simp only [callSpecialIfBound?, bindSpecialIfBound?]
  refine wpAny_holding (wpAny_bind (wpAny_bind (wpAny_bind (K_type Ix (K_look (C := C) (r := some (.ref (KV.f 1))) (r' := none) e1 e2 ?_ (fun h => nomatch h) ?_)))))
  · kernel_rfl
  refine wpAny_bind (wpAny_askSetting (wpAny_ite ?_))
  have fin : wpAny (model PW w) A (call (.ref (KV.f 1)) ([.ref x] ++ [.ref y]) >>= fun v => pure (some v)) (fun r s' => wpAny (model PW w) A (match r with | some .notImplemented | none => (do rule "list.sort.lt-declined"; truthOfDropped (← richCompare .Lt (.ref x) (.ref y))) | some r => truthOfDropped r) Q E s') E s :=
    wpAny_bind (lt_call W st hA hD hU K ok f1 r hc gcm L Ix Iy gx gy hx hy fun s' N => wpAny_pure (wpAny_truthy_bool (h s' N)))
  split
  · exact wpAny_bind (wpAny_bindSpecial_def f1' rfl (wpAny_pure (by exact fin)))
  · exact wpAny_tryCatch (wpAny_bind (wpAny_bindSpecial_def f1' rfl (wpAny_pure (by exact fin))))

theorem notab_none {x : Addr} (st : St b s) (h : s.heap.get? x = none) : x ∉ tabs := fun q => by
  obtain ⟨ps, e, _⟩ := st.tab x q
  rw [e] at h
  cases h
/-- while the keys are made -/
structure KI (b : Heap) (s₀ s : Shared) (C a kS : Addr) (e1 : Nat) (ws : List Str) (ks : List Addr) : Prop where
  nx : Nx b [] s₀ s
  ha : s.heap.get? a = some (seqObj "list" #[] e1)
  hk : ∃ e, s.heap.get? kS = some (seqObj "list" (ks.map Value.ref).toArray e)
  ins : ∀ (j : Nat) (x : Addr), (ks[j]? : Option Addr) = some x → ∃ wd t, ws[j]? = some wd ∧ InstK s.heap x C wd t ∧ x ∉ tabs ∧ x ≠ kS

theorem InstK.nxX {s s' : Shared} {X : List Addr} {x : Addr} {wd : Str} {t : Tok} (I : InstK s.heap x C wd t) (N : Nx b X s s') (g : x ∉ tabs) (hX : x ∉ X) : InstK s'.heap x C wd t :=
  let ⟨o, e, r⟩ := I; ⟨o, N.kp _ _ g hX e, r⟩

theorem list_sort_K {a n : Nat} {o : Str} {ws : List Str} {vs : List Value} {P : PySem.Fin → Shared → Prop} (W : WW w b mg mb bm ob) (st₀ : St b s₀) (N₀ : Nx b [] s₀ s) (hA : A.handled = none) (hD : A.depth < 890) (hU : A.units ≤ 400)
    (K : KAt w b lo hi s₀.heap C FO) (ok : FOk cm FO) (hc : s₀.heap.IsCell cm (some (.ref fl))) (gcm : 232 < cm) (L : Lam s₀.heap fl o)
    (ha : s.heap.get? a = some (seqObj "list" vs.toArray n)) (fa : s₀.heap.objs.size ≤ a) (hs : StrsAre vs ws) (hw : ∀ x ∈ ws, 1 ≤ x.length) (h2 : 2 ≤ ws.length) (h64 : ws.length < 64) (hok : okT ws.length (kas_sort ws.length) = true)
    (h : ∀ s' c, Nx b [] s₀ s' → s'.heap.get? a = some (seqObj "list" (List.toArray ((runT (fun i j => decide (Txt.find o (headS (ws.getD i ⟨#[]⟩)) - Txt.find o (headS (ws.getD j ⟨#[]⟩)) < 0)) (kas_sort ws.length)).toList.map fun i => vs.getD i .none)) c) → P (.done (.ret .none)) s') :
    wpAny (model PW w) A (ksk_tree a (.ref C) false) P E s := by
  have hl : vs.length = ws.length := by
    have : ∀ {vs : List Value} {ws : List Str}, StrsAre vs ws → vs.length = ws.length := fun h => by
      induction h with
      | nil => rfl
      | cons => simp [*]
    exact this hs
  have gs := st₀.lt W
  have la : a < s.heap.objs.size := Heap.lt_size ha
  unfold ksk_tree
  refine wpAny_bind (listItems_at ha rfl ?_)
  refine wpAny_bind (listUpdate_at ha rfl ?_ (by rw [List.size_toArray, sizeLine_eq]; omega) (Nat.zero_le _))
  obtain ⟨e1, ho1⟩ : ∃ e1, (s.heap.update a (Obj.mapSeq fun _ => (#[] : Array Value))).get? a = some (seqObj "list" #[] e1) := ⟨_, get?_update_seq ha fun _ => #[]⟩
  have N1 := nx_upd (f := Obj.mapSeq fun _ => (#[] : Array Value)) W N₀ st₀ fa (NC.seq ha rfl)
  refine wpAny_bind (seqEpoch_at ho1 rfl ?_)
  refine wpAny_bind (wpAny_newTuple ?_ (by show vs.length ≤ _; rw [sizeLine_eq]; omega))
  have N2 := N1.tr (Nx.push N1.st (o := { cls := .type "tuple", data := .seq vs.toArray }))
  refine wpAny_bind (wpAny_newList ?_ (Nat.zero_le _))
  have N3 := N2.tr (Nx.push N2.st (o := { cls := .type "list", data := .seq #[] }))
  refine wpAny_holding ?_
  have ho3 := Heap.get?_push_of_some ({ cls := .type "list", data := .seq #[] } : Obj) (Heap.get?_push_of_some ({ cls := .type "tuple", data := .seq vs.toArray } : Obj) ho1)
  have hk3 := Heap.get?_push_size ((s.heap.update a (Obj.mapSeq fun _ => (#[] : Array Value))).push { cls := .type "tuple", data := .seq vs.toArray }) (o := ({ cls := .type "list", data := .seq #[] } : Obj)) rfl
  generalize hkS : ((s.heap.update a (Obj.mapSeq fun _ => (#[] : Array Value))).push { cls := .type "tuple", data := .seq vs.toArray }).objs.size = kS at *
  have fkS : s₀.heap.objs.size ≤ kS := by rw [← hkS]; exact N2.sz
  have hak : a ≠ kS := by rw [← hkS]; intro q; have := Heap.lt_size (Heap.get?_push_of_some ({ cls := .type "tuple", data := .seq vs.toArray } : Obj) ho1); rw [← q] at this; exact Nat.lt_irrefl _ this
  unfold ksk_rest
  refine wpAny_bind (wpAny_rule ?_)
  refine wpAny_bind (wpAny_forArr (l := vs) rfl (ksk_fold (fun i s' => ∃ ks : List Addr, ks.length = i ∧ KI b s₀ s' C a kS e1 ws ks) vs 0 _ ⟨[], rfl, N3, ho3, ⟨0, hk3⟩, fun j x e => by simp at e⟩ ?step ?done))
  case step =>
    rintro j v s' hv ⟨ks, hkl, I⟩
    obtain ⟨wd, hwd, t, rfl⟩ : ∃ wd, ws[j]? = some wd ∧ ∃ t, v = .str wd t := by
      have : ∀ {vs : List Value} {ws : List Str}, StrsAre vs ws → ∀ {j : Nat} {v : Value}, vs[j]? = some v → ∃ wd, ws[j]? = some wd ∧ ∃ t, v = .str wd t := fun h => by
        induction h with
        | nil => intro j v e; simp at e
        | cons x t r ih =>
          intro j v e
          cases j with
          | zero => simp at e; exact ⟨x, rfl, t, e.symm⟩
          | succ j => exact ih (by simpa using e)
      exact this hs hv
    have hj : j < ws.length := (List.getElem?_eq_some_iff.mp hwd).1
    obtain ⟨e, hk⟩ := I.hk
    refine wpAny_bind (wpAny_attempt (K_call (C := C) W I.nx.st hA (Nat.le_of_lt (Nat.lt_trans hD (by decide))) (Nat.le_trans hU (by decide)) (K.nx0 I.nx) ok fun x s2 N Ix hx => ?_))
    have hk2 := N.kp _ _ (notab_of (Nat.lt_of_lt_of_le gs fkS)) (fun h => nomatch h) hk
    have ha2 := N.kp _ _ (notab_of (Nat.lt_of_lt_of_le gs fa)) (fun h => nomatch h) I.ha
    have gx : x ∉ tabs := notab_none I.nx.st hx
    have xk : x ≠ kS := fun q => by rw [q, hk] at hx; cases hx
    refine wpAny_bind (listUpdate_at hk2 rfl ?_ (by rw [List.size_toArray, List.length_map, sizeLine_eq]; omega) (by rw [Array.size_push, List.size_toArray, List.length_map, sizeLine_eq]; omega))
    refine wpAny_pure ⟨rfl, ks ++ [x], by simp [hkl], ?_⟩
    have N4 := Nx.upd (f := Obj.mapSeq (·.push (.ref x))) N.st (Nat.lt_of_lt_of_le gs fkS) (st₀.fresh fkS) (NC.seq hk2 rfl)
    have ea : (ks.map Value.ref).toArray.push (.ref x) = ((ks ++ [x]).map Value.ref).toArray := by simp
    obtain ⟨c2, hc2⟩ : ∃ c2, (s2.heap.update kS (Obj.mapSeq (·.push (.ref x)))).get? kS = some (seqObj "list" ((ks ++ [x]).map Value.ref).toArray c2) := by rw [← ea]; exact ⟨_, get?_update_seq hk2 (·.push (.ref x))⟩
    refine ⟨nx_upd W (I.nx.tr N) st₀ fkS (NC.seq hk2 rfl), (Heap.get?_update_ne _ _ _ _ hak).trans ha2, ⟨c2, hc2⟩, fun i y e => ?_⟩
    · by_cases hi : i < ks.length
      · rw [List.getElem?_append_left hi] at e
        obtain ⟨wd', t', q1, q2, q3, q4⟩ := I.ins i y e
        exact ⟨wd', t', q1, (q2.nx N q3).nxX N4 q3 (fun h => q4 (List.mem_singleton.mp h)), q3, q4⟩
      · have hi' : i = j := by
          have := (List.getElem?_eq_some_iff.mp e).1
          simp at this
          omega
        subst hi'
        have : y = x := by
          rw [List.getElem?_append_right (by omega), hkl] at e
          simp at e
          exact e.symm
        subst this
        exact ⟨wd, t, hwd, Ix.nxX N4 gx (fun h => xk (List.mem_singleton.mp h)), gx, xk⟩
  case done =>
    rintro s' ⟨ks, hkl, I⟩
    obtain ⟨e, hk⟩ := I.hk
    have hkz : ks.length = ws.length := by omega
    refine wpAny_bind (listItems_at hk rfl ?_)
    have hI : ∀ i, i < ws.length → ∃ x t, ks[i]? = some x ∧ InstK s'.heap x C (ws.getD i ⟨#[]⟩) t ∧ x ∉ tabs := fun i hi => by
      obtain ⟨wd, t, q1, q2, q3, q4⟩ := I.ins i ks[i] (List.getElem?_eq_getElem (by omega))
      refine ⟨ks[i], t, List.getElem?_eq_getElem (by omega), ?_, q3⟩
      rw [List.getD_eq_getElem?_getD, q1]; exact q2
    unfold ksk_end
    have hn2 : ¬ vs.toArray.size < 2 := by rw [List.size_toArray]; omega
    refine wpAny_ifF rfl ?_
    rw [if_neg hn2, if_neg hn2]
    refine wpAny_bind (kas_kind (T := .ref C) (by rw [List.length_map]; omega) (fun v hv => ?_) rfl (by simp) ?_)
    · obtain ⟨x, hx, rfl⟩ := List.mem_map.mp hv
      obtain ⟨i, hi⟩ := List.getElem?_of_mem hx
      obtain ⟨wd, t, q1, ⟨o, q2, qc, _⟩, q3, q4⟩ := I.ins i x hi
      have this : Looks (model PW w) s'.heap (typeOf (.ref x)) o.cls := (Looks.ld q2).andThen .now
      rw [qc] at this
      exact this
    have hit : ∀ i, i < ws.length → ∃ x, ks[i]? = some x ∧ kas_item ((ks.map Value.ref).toArray.zip vs.toArray) i = (.ref x, vs.getD i .none) := fun i hi => by
      refine ⟨ks[i], List.getElem?_eq_getElem (by omega), ?_⟩
      unfold kas_item
      simp [Array.getD, hkz, hl, hi]
    have hzs : ((ks.map Value.ref).toArray.zip vs.toArray).size = ws.length := by simp [hkz, hl]
    have est : SortSt.mk' oneType' ((ks.map Value.ref).toArray.zip vs.toArray) #[] 7 none = kas_st oneType' ((ks.map Value.ref).toArray.zip vs.toArray) (List.toArray (List.range ws.length)) := by
      have e := kas_range ((ks.map Value.ref).toArray.zip vs.toArray)
      rw [hzs] at e
      show SortSt.mk' oneType' _ #[] 7 none = SortSt.mk' oneType' ((List.toArray (List.range ws.length)).map (kas_item _)) #[] 7 none
      rw [e]
    have ask := kas_go (w := w) (A := A) (κ := oneType') (it := (ks.map Value.ref).toArray.zip vs.toArray) (n := ws.length) (lt := fun i j => decide (Txt.find o (headS (ws.getD i ⟨#[]⟩)) - Txt.find o (headS (ws.getD j ⟨#[]⟩)) < 0)) (I := fun s'' => Nx b [] s' s'')
      (fun i j s2 R hi hj N hR => ?_) (Q := fun p s2 => p = runT (fun i j => decide (Txt.find o (headS (ws.getD i ⟨#[]⟩)) - Txt.find o (headS (ws.getD j ⟨#[]⟩)) < 0)) (kas_sort ws.length) ∧ Nx b [] s' s2) (kas_sort ws.length) s' hok (Nx.refl I.nx.st) (fun s2 N => ⟨rfl, N⟩)
    rotate_left
    · unfold kas_cmp
      obtain ⟨x, q1, q2⟩ := hit i hi
      obtain ⟨y, r1, r2⟩ := hit j hj
      obtain ⟨x', tx, q3, Ix, gx⟩ := hI i hi
      obtain ⟨y', ty, r3, Iy, gy⟩ := hI j hj
      rw [q1] at q3; cases q3
      rw [r1] at r3; cases r3
      rw [q2, r2]
      have M := I.nx.tr N
      have len1 : ∀ i, i < ws.length → 1 ≤ (ws.getD i ⟨#[]⟩).length := fun i hi => by
        rw [List.getD_eq_getElem?_getD, List.getElem?_eq_getElem hi]
        exact hw _ (List.getElem_mem hi)
      exact ask_K W M.st hA hD hU (K.nx0 M) ok (cell_nx hc M gcm) gcm (L.nx M) (Ix.nx N gx) (Iy.nx N gy) gx gy (len1 i hi) (len1 j hj) fun s3 N3 => hR s3 (N.tr N3)
    have run := kas_runs (E := E) (Q := fun _ st' s2 => ∃ p : Array Nat, p.size = ws.length ∧ arrOf st' = p.map (kas_item ((ks.map Value.ref).toArray.zip vs.toArray)) ∧ failedOf st' = none ∧ p = runT (fun i j => decide (Txt.find o (headS (ws.getD i ⟨#[]⟩)) - Txt.find o (headS (ws.getD j ⟨#[]⟩)) < 0)) (kas_sort ws.length) ∧ Nx b [] s' s2)
      h2 h64 (fun p' st' s' a1 a2 a3 a4 => ⟨p', a1, a2, a3, a4⟩) ask
    rw [← est] at run
    refine wpAny_bind (wpAny_mono run ?_ fun _ _ e => e)
    rintro ⟨⟨⟩, st'⟩ s2 ⟨p, hp, har, hf, hpe, N⟩
    have M := I.nx.tr N
    have ha2 := N.kp _ _ (notab_of (Nat.lt_of_lt_of_le gs fa)) (fun h => nomatch h) I.ha
    have hk2 := N.kp _ _ (notab_of (Nat.lt_of_lt_of_le gs fkS)) (fun h => nomatch h) hk
    have hout : (arrOf st').map (·.2) = List.toArray (p.toList.map fun i => vs.getD i Value.none) := by
      apply Array.toList_inj.mp
      rw [har, Array.map_map, Array.toList_map]
      refine List.map_congr_left fun i _ => ?_
      show (kas_item _ i).2 = _
      by_cases hi : i < ws.length
      · obtain ⟨x, q1, q2⟩ := hit i hi
        rw [q2]
      · unfold kas_item
        rw [List.getD_eq_getElem?_getD, List.getElem?_eq_none (by omega)]
        simp [Array.getD, hkz, hl, hi]
    have hsz : (List.toArray (p.toList.map fun i => vs.getD i Value.none)).size = ws.length := by rw [List.size_toArray, List.length_map, Array.length_toList, hp]
    unfold ksk_tail
    dsimp only
    rw [hout]
    have M2 := nx_upd (f := Obj.mapSeq fun _ => (#[] : Array Value)) W M st₀ fkS (NC.seq hk2 rfl)
    have ha3 := (Heap.get?_update_ne s2.heap _ _ (Obj.mapSeq fun _ => (#[] : Array Value)) hak).trans ha2
    refine wpAny_bind (listUpdate_at hk2 rfl ?_ (by rw [List.size_toArray, List.length_map, sizeLine_eq]; omega) (Nat.zero_le _))
    refine wpAny_bind (wpAny_letGo ?_)
    refine wpAny_bind (seqEpoch_at ha3 rfl ?_)
    refine wpAny_bind (listUpdate_at ha3 rfl ?_ (Nat.zero_le _) (Nat.le_trans (Nat.le_of_eq hsz) (by rw [sizeLine_eq]; omega)))
    have M3 := nx_upd (f := Obj.mapSeq fun _ => List.toArray (p.toList.map fun i => vs.getD i Value.none)) W M2 st₀ fa (NC.seq ha3 rfl)
    obtain ⟨c2, hc2⟩ : ∃ c2, ((s2.heap.update kS (Obj.mapSeq fun _ => (#[] : Array Value))).update a (Obj.mapSeq fun _ => List.toArray (p.toList.map fun i => vs.getD i Value.none))).get? a = some (seqObj "list" (List.toArray (p.toList.map fun i => vs.getD i Value.none)) c2) := ⟨_, get?_update_seq ha3 fun _ => _⟩
    rw [hf]
    simp only [bne_self_eq_false, Bool.false_eq_true, if_false]
    refine wpAny_pure (h _ c2 M3 ?_)
    rw [← hpe]
    exact hc2
end
end Mine
end -- C16
section -- C17
/-! C17: newline on an empty line -/
set_option maxRecDepth 100000
namespace Mine
open PySem PySem.W PySem.Calls PyProof.Rows Builtin Builtin.ObjectAttr
set_option maxHeartbeats 2000000
section
variable {w : World} {A : Around} {E : Value → Shared → Prop} {s : Shared} {b : Heap} {mg mb : Str → Option Value} {bm : Addr} {ob : Obj} {env : Env}

theorem enterC {f : Addr} {fd : FuncData} {body : List Stmt} {args : List Value} {kw : List (Str × Value)} {binds : List (Str × Value)} {cls : Value} {dd : Option Addr} {sl : Array (Option Value)} {Q : Value → Shared → Prop}
    (W : WW w b mg mb bm ob) (st : St b s) (hD : A.depth < recursionLimit) (hK : (KK w).lookup f = some ⟨cls, dd, .func fd, sl⟩) (hbody : fd.body = .stmts body) (hcd : codeIn (KK w) fd.code fd.qualname = true)
    (hbind : BindsTo s fd ⟨args, kw⟩ binds) (hcell : ∀ x ∈ fd.scope.names, x.2 ≠ .cell) (hloc : ∀ x ∈ binds, fd.scope.names.lookup x.1 = some .local)
    (h : ∀ A₁ s₁ E' L, A₁.handled = A.handled → A₁.depth = A.depth + 1 → A₁.units = A.units + 3 → L = s.heap.objs.size → Nx b [] s s₁ → L < s₁.heap.objs.size → s₁.heap.Ns L (fun x => binds.reverse.lookup x) →
      wpAny (model PW w) A₁ (execs body (callEnv fd L f)) (fun fl s' => Q (match fl with | .ret v => v | _ => .none) s') E' s₁)
    (hco : fd.scope.isCoroutine = false := by rfl) (hgen : fd.scope.isGenerator = false := by rfl) (hk : fd.scope.kind = .function := by rfl) :
    codeAny (model PW w) A (.call (.ref f) ⟨args, kw⟩) (fun r s' => match r with | .ok (.ret v) => Q v s' | .ok _ => False | .error e => E e s') s := by
  refine (codeAny_call_def (fd := fd) (body := body) hD (st.k W _ _ hK) rfl (st.lim W) (codeRec_of (st.k W) hcd) hbody hbind hcell hloc (fun h₀ hns hk₀ => ?_) hco hgen hk)
  obtain ⟨o, es, ep, ho, _⟩ := id hns
  exact h _ _ _ _ rfl rfl rfl rfl (Nx.all st hk₀ rfl rfl rfl (Nat.le_of_lt (Heap.lt_size ho))) (Heap.lt_size ho) hns
theorem acc_pushC {x dx : Addr} {n : Int} {Ts : List Addr} {ps : List (Str × Str)} {f p : Str} {t1 t2 : Tok} {Q : Value → Shared → Prop} (W : WW w b mg mb bm ob) (st : St b s) (hA : A.handled = none) (hD : A.depth < 890) (a : Acc w b s.heap x dx n Ts ps)
    (hsm : ps.length ≤ 1000) (h : ∀ s' T, Nx b [x] s s' → Acc w b s'.heap x dx n (Ts ++ [T]) (ps ++ [(f, p)]) → s.heap.objs.size ≤ T → Q .none s') : codeAny (model PW w) A (.call (.ref 122) ⟨[.ref x, .str f t1, .str p t2], []⟩) (fun r s' => match r with | .ok (.ret v) => Q v s' | .ok _ => False | .error e => E e s') s := by
  refine enterC (f := 122) (binds := [(Str.ofString "self", .ref x), (Str.ofString "fws", .str f t1), (Str.ofString "string", .str p t2)]) W st (Nat.lt_trans hD (by decide)) rfl rfl (by kernel_rfl) (BindsTo.of_eq rfl) (by decide) (locs rfl) (fun A₁ s₁ E' L hA₁ hD₁ _ hL N₁ hLs hns => ?_)
  refine wpAny_execs_cons (wpAny_Expr_any ?_)
  have a₁ := a.nx0 N₁
  refine MethodCall_ (nm_loc hns (acc_bmeth (id := "list.append") (ft := "method_descriptor") W N₁.st a₁ (PyProof.Rows.callWith_method1 (spliced_more ?_))))
  refine Tuple_ (spliced_more (nm_loc hns (spliced_more (nm_loc hns (spliced_none ?_)))))
  refine wpAny_newObj_type (spliced_none ?_) (by size_fits)
  have N₂ := N₁.st |> Nx.push (o := { cls := .type "tuple", data := .seq [.str f t1, .str p t2].toArray })
  have a₂ := a₁.nx0 N₂
  obtain ⟨k, t, t', k', I⟩ := a₂.inst
  refine call_sub (n := "append") (N₂.st.k W) I (by kernel_rfl) kind_append (by decide +kernel) (by decide +kernel) entry_append (args_append _ _) ?_
  show wpAny _ _ (updateSeq x (·.push _) >>= fun _ => ret .none) _ _ _
  have hsz : ((Ts.map Value.ref).toArray).size = ps.length := by simp [a.len]
  have e : sizeLine = 2 ^ 24 := by decide
  refine wpAny_bind (wpAny_updateSeq (hz := by rw [hsz]; omega) (_hz' := by rw [Array.size_push, hsz]; omega) I.at_ rfl (wpAny_pure ⟨.none, rfl, ?_⟩))
  have N₃ : Nx b [x] _ _ := Nx.upd (f := Obj.mapSeq (·.push (.ref s₁.heap.objs.size))) N₂.st a.gx a.fx a₂.nc
  have hT : TupAt (s₁.heap.push { cls := .type "tuple", data := .seq [.str f t1, .str p t2].toArray }) s₁.heap.objs.size (f, p) := ⟨_, _, _, Heap.get?_push_size _ rfl, rfl, _, rfl⟩
  refine wpAny_execs_nil (h _ _ ((N₁.tr N₂).lt0 N₃) (a₂.push hT (fun q => ?_) ?_) N₁.sz)
  · have := a₁.ltx; rw [← q] at this; exact Nat.lt_irrefl _ this
  · exact N₁.st.lt W
theorem _root_.Mine.Nx.ns {X : List Addr} {s s' : Shared} (N : Nx b X s s') {L : Addr} {m : Str → Option Value} (hns : s.heap.Ns L m) (hL : 232 < L) (hX : L ∉ X := by exact List.not_mem_nil) : s'.heap.Ns L m := ns_nx hns N hL hX
theorem _root_.Mine.Nx.acc0 {s s' : Shared} (N : Nx b [] s s') {x dx n Ts ps} (a : Acc w b s.heap x dx n Ts ps) : Acc w b s'.heap x dx n Ts ps := a.nx0 N
theorem _root_.Mine.Nx.vf {X : List Addr} {s s' : Shared} (N : Nx b X s s') {v dv ln x : Addr} {mx : Int} {rows : List Str} (f : VF w b s.heap v dv ln x mx rows) (h1 : v ∉ X := by exact List.not_mem_nil) (h2 : dv ∉ X := by exact List.not_mem_nil) (h3 : ln ∉ X := by exact List.not_mem_nil) : VF w b s'.heap v dv ln x mx rows := f.nx N h1 h2 h3
theorem _root_.Mine.Nx.tup {X : List Addr} {s s' : Shared} (N : Nx b X s s') {T : Addr} {q : Str × Str} (hh : TupAt s.heap T q) (g : 232 < T) (hX : T ∉ X := by exact List.not_mem_nil) : TupAt s'.heap T q := by
  obtain ⟨t1, t2, o, e, r⟩ := hh
  exact ⟨t1, t2, o, N.kp _ _ (notab_of g) hX e, r⟩
theorem acc_bound' {x dx f : Addr} {n : Int} {Ts : List Addr} {ps : List (Str × Str)} {name : Str} {Q : Value → Shared → Prop} {expr : Bool} (W : WW w b mg mb bm ob) (st : St b s) (a : Acc w b s.heap x dx n Ts ps)
    (hfo : ∀ t t' k, findObj (KK w) 178 (some (dictOf [⟨PyData.keyHash w.params (Str.ofString "_initial_size"), .str (Str.ofString "_initial_size") t', .int n t⟩] k)) name = some (.bind (.builtin "function.__get__") (.ref f)))
    (ht : ∃ o, (KK w).lookup f = some o ∧ o.cls = .type "function")
    (h : ∀ s', Nx b [] s s' → s'.heap.get? s.heap.objs.size = some (methodObj (.ref f) (.ref x)) → s'.heap.objs.size = s.heap.objs.size + 1 → Q (.ref s.heap.objs.size) s') : wpAny (model PW w) A (getAttr (.ref x) name expr) Q E s :=
  acc_bound W st a hfo ht (h _ ((Nx.push st).toks) (Heap.get?_push_size _ rfl) (Heap.size_push _ _))

/-- self._lines.append(str(self._current_line)) -/
theorem lines_append {v dv ln x dx : Addr} {mx n : Int} {rows : List Str} {Ts : List Addr} {ps : List (Str × Str)} {m : Str → Option Value} {p1 p2 p3 p4 p5 p6 p7 p8 : Pos} {Q : Value → Shared → Prop} {pl : Sem Bool} (W : WW w b mg mb bm ob) (st : St b s) (hA : A.handled = none) (hD : A.depth < 880) (hu : A.units + 2 < cLine)
    (F : VF w b s.heap v dv ln x mx rows) (a : Acc w b s.heap x dx n Ts ps) (D : Dis v dv ln x dx) (sm : Small n ps) (hrows : rows.length ≤ 1000) (hns : s.heap.Ns env.locals m) (hm : m (Str.ofString "self") = some (.ref v)) (gL : 232 < env.locals) (hT : ∀ T ∈ Ts, T ≠ ln)
    (h : ∀ s', Nx b [ln] s s' → VF w b s'.heap v dv ln x mx (rows ++ [ptext ps]) → Acc w b s'.heap x dx n Ts ps → Q .none s')
    (hev : eval (.Call (.Attribute (.Attribute (.Name (Str.ofString "self") p1) (Str.ofString "_lines") p2) "append" p3) [.Call (.Name (Str.ofString "str") p4) [.Attribute (.Name (Str.ofString "self") p5) (Str.ofString "_current_line") p6] [] p7] [] p8) env = (do
      let ov ← eval (.Attribute (.Name (Str.ofString "self") p1) (Str.ofString "_lines") p2) env
      standAt p3.atName
      let (f, first) ← holding [ov] (getMethod ov "append" pl)
      callWith p8 f first (backTo p8 (starEach [.Call (.Name (Str.ofString "str") p4) [.Attribute (.Name (Str.ofString "self") p5) (Str.ofString "_current_line") p6] [] p7] env)) []) := by with_unfolding_all rfl)
    (hk : env.scope.kind = .function := by rfl) (hl : env.kindOf (Str.ofString "self") = some .local := by rfl) (hgl : env.globals = mainGlobals := by rfl) (hbl : env.builtins = builtinsNs := by rfl) (hx : env.kindOf (Str.ofString "str") = some .globalImplicit := by rfl) :
    wpAny (model PW w) A (eval (.Call (.Attribute (.Attribute (.Name (Str.ofString "self") p1) (Str.ofString "_lines") p2) "append" p3) [.Call (.Name (Str.ofString "str") p4) [.Attribute (.Name (Str.ofString "self") p5) (Str.ofString "_current_line") p6] [] p7] [] p8) env) Q E s := by
  refine MethodCall_ (Attribute_name (nm_loc (v := .ref v) hns (vf_lines W st F ?_) hm hk hl)) hev
  obtain ⟨its, ⟨ol, nl, el, hcl, hdl, hsl⟩, hr⟩ := id F.ls
  refine Calls.getMethod_list_append (s := { s with toks := s.toks + 1 }) el hcl hdl ?_
  refine PyProof.Rows.callWith_method1 (spliced_more (Call_ (nm_bi W st.toks rfl ?_ (by kernel_rfl) hk hx hgl hbl) rfl))
  refine PyProof.Rows.callWith_type1 (spliced_more (Attribute_name (nm_loc (v := .ref v) (s := { s with toks := s.toks + 1 }) hns (vf_line (s := { s with toks := s.toks + 1 }) W st.toks F (spliced_none ?_)) hm hk hl)))
  refine str_acc W st.toks hA (by omega) hu (s := { s with toks := s.toks + 1 + 1 }) a sm fun s2 tk N2 => spliced_none ?_
  refine vf_addrow N2.st (N2.vf F) D.vl D.dl (by omega) fun s3 N3 F3 => ?_
  have N : Nx b [ln] s s3 := (Nx.refl st).toks |>.tr N2 |>.lt0 N3
  exact h s3 N F3 (a.nx N (ni D.lx.symm) (ni D.ld.symm) (fun T hh => ni (hT T hh)))

theorem newline_empty {v dv ln x dx : Addr} {mx n : Int} {rows : List Str} {Q : Value → Shared → Prop} (W : WW w b mg mb bm ob) (st : St b s) (hA : A.handled = none) (hD : A.depth < 850) (hu : A.units < 9000)
    (F : VF w b s.heap v dv ln x mx rows) (a : Acc w b s.heap x dx n [] []) (D : Dis v dv ln x dx) (hn : 0 < n) (hn' : n ≤ 1000) (hrows : rows.length ≤ 1000)
    (h : ∀ s', Nx b [x, dx, ln] s s' → VF w b s'.heap v dv ln x mx (rows ++ [ptext [(Str.ofString "", Str.ofString "")]]) → Acc w b s'.heap x dx 0 [] [] → Q .none s') : wpAny (model PW w) A (call (.ref 56) [.ref v]) Q E s := by
  refine enter (f := 56) (binds := [(Str.ofString "self", .ref v)]) W st (Nat.lt_trans hD (by decide)) rfl rfl (by kernel_rfl) (BindsTo.of_eq rfl) (by decide) (locs rfl) (fun A₁ s₁ E' L hA₁ hD₁ hU₁ hL N₁ hLs hns => ?_)
  have hL2 : 232 < L := by rw [hL]; exact st.lt W
  have fL : b.get? L = none := st.fresh (Nat.le_of_eq hL.symm)
  have hxL : x < L := by rw [hL]; exact a.ltx
  have hu1 : A₁.units < cLine := by rw [hU₁]; show A.units + 3 < 9900; omega
  have F₁ := F.nx N₁ List.not_mem_nil List.not_mem_nil List.not_mem_nil
  have a₁ := a.nx0 N₁
  -- end_of_line = self._current_line.pop()
  refine wpAny_execs_cons (gen_post fun Q1 E1 hQ1 => wpAny_Assign_Name (MethodCall_ (Attribute_name (nm_loc (v := .ref v) hns (vf_line W N₁.st F₁ (meth0 (f := 138) W N₁.st.toks a₁ ?_))))))
  refine acc_pop_nil W N₁.st.toks (hA₁.trans hA) (by omega) a₁ fun s₂ T N₂ hT gT => ?_
  have N₀₂ : Nx b [] s s₂ := N₁.toks.tr N₂
  have hns₂ := ns_nx (s := { s₁ with toks := s₁.toks + 1 }) hns N₂ hL2
  refine set_loc N₂.st hns₂ hL2 fL fun s₃ N₃ hns₃ => hQ1 _ _ ?_
  show wpAny _ _ _ _ _ _
  have gT2 : 232 < T := Nat.lt_of_lt_of_le (N₁.st.lt W) gT
  have gTL : L < T := Nat.lt_of_lt_of_le hLs gT
  have tupN : ∀ {X : List Addr} {u u' : Shared} {T : Addr} {q : Str × Str}, TupAt u.heap T q → Nx b X u u' → 232 < T → T ∉ X → TupAt u'.heap T q := fun hh N g hX => by
    obtain ⟨t1, t2, o, e, r⟩ := hh
    exact ⟨t1, t2, o, N.kp _ _ (notab_of g) hX e, r⟩
  have hT₃ := tupN hT N₃ gT2 (ni (Nat.ne_of_gt gTL))
  have N₀₃ : Nx b [L] s s₃ := N₀₂.lt0 N₃
  have N₀₃' : Nx b [] s s₃ := N₀₃.mono fun c hc => .inr (by rw [List.mem_singleton.mp hc, hL]; exact Nat.le_refl _)
  have a₃ := a.nx0 N₀₃'
  have F₃ := F.nx N₀₃' List.not_mem_nil List.not_mem_nil List.not_mem_nil
  -- if end_of_line != (' ', '')
  refine wpAny_execs_cons (gen_post fun Q2 E2 hQ2 => wpAny_If (wpAny_isTrue_Compare1 ?_))
  refine nm_loc (v := .ref T) hns₃ (Tuple_ (spliced_more (wpAny_Constant_str (spliced_more (wpAny_Constant_str (spliced_none ?_))))))
  refine wpAny_newObj_type ?_ (by size_fits)
  have N₄ := (N₃.st.toks (k := s₃.toks + 1 + 1)) |> Nx.push (o := { cls := .type "tuple", data := .seq [.str (Str.ofString " ") s₃.toks, .str (Str.ofString "") (s₃.toks + 1)].toArray })
  refine ne_pair (f := Str.ofString "") (p := Str.ofString "") (g := Str.ofString " ") (q := Str.ofString "") (tupN (u := { s₃ with toks := s₃.toks + 1 + 1 }) hT₃ N₄ gT2 List.not_mem_nil) ⟨_, _, _, Heap.get?_push_size _ rfl, rfl, _, rfl⟩ hu1 (by decide) (wpAny_truthy_bool ?_)
  rw [if_pos rfl]
  have N₀₄ : Nx b [] s _ := N₀₃'.toks.tr N₄
  have a₄ := a.nx0 N₀₄
  have F₄ := F.nx N₀₄ List.not_mem_nil List.not_mem_nil List.not_mem_nil
  have hns₄ := ns_nx (s := { s₃ with toks := s₃.toks + 1 + 1 }) hns₃ N₄ hL2
  have hT₄ := tupN (u := { s₃ with toks := s₃.toks + 1 + 1 }) hT₃ N₄ gT2 List.not_mem_nil
  -- self._current_line.push(*end_of_line)
  refine wpAny_execs_cons (gen_post fun Q3 E3 hQ3 => wpAny_Expr_any ?_)
  refine MethodCallStar_ (Attribute_name (nm_loc (v := .ref v) hns₄ (vf_line W N₄.st F₄ (acc_bound' (f := 122) W N₄.st.toks a₄ (fun _ _ _ => by kernel_rfl) ⟨_, rfl, rfl⟩ fun s₅ N₅ hq hz => ?_)))) (by with_unfolding_all rfl)
  refine callWith_MS (g := 122) (self := .ref x) (by kernel_rfl) (nm_loc (v := .ref T) (N₅.ns hns₄ hL2) ?_)
  refine star_pair (f := Str.ofString "") (p := Str.ofString "") N₅.st (N₅.tup hT₄ gT2) hz ⟨_, hq⟩ fun s₆ t1 t2 N₆ => ⟨⟨N₆.kp _ _ (notab_of (N₄.st.lt W)) List.not_mem_nil hq, N₆.st.k W⟩, ?_⟩
  refine wpAny_call (method_call (N₆.kp _ _ (notab_of (N₄.st.lt W)) List.not_mem_nil hq) (acc_pushC W N₆.st (hA₁.trans hA) (by omega) (N₆.acc0 (N₅.acc0 a₄)) (Nat.zero_le _) fun s₇ T' N₇ a₇ hT' => ?_))
  have N₄₆ : Nx b [] s s₆ := (N₀₄.toks.tr N₅).tr N₆
  have N₀₇ : Nx b [x] s s₇ := N₄₆.lt0 N₇
  have F₇ := N₀₇.vf F (ni D.vx) (ni D.dvx) (ni D.lx)
  have hns₇ := N₇.ns (N₆.ns (N₅.ns hns₄ hL2) hL2) hL2 (ni (Nat.ne_of_gt hxL))
  refine hQ3 _ _ (wpAny_execs_nil (hQ2 _ _ ?_))
  show wpAny _ _ _ _ _ _
  refine wpAny_execs_cons (gen_post fun Q4 E4 hQ4 => wpAny_If (wpAny_isTrue_Compare1 ?_))
  refine Call_ (nm_bi W N₇.st rfl ?_)
  refine PyProof.Rows.callWith_builtin1 (spliced_more (Attribute_name (nm_loc (v := .ref v) hns₇ (vf_line W N₇.st F₇ (spliced_none ?_)))))
  have sm : Small n ([] ++ [(Str.ofString "", Str.ofString "")]) := ⟨by omega, hn', by decide, by intro p hp; simp at hp; subst hp; decide⟩
  refine len_acc W N₇.st.toks (hA₁.trans hA) (by omega) a₇ sm fun s₈ tk N₈ => ?_
  refine wpAny_Constant_int (PyProof.Rows.gt_int (wpAny_truthy_bool ?_))
  rw [if_pos (by have e0 : (Str.ofString "").length = 0 := rfl; simp [plen]; omega)]
  have hns₈ := (N₇.st.toks (k := s₇.toks + 1)) |> fun _ => N₈.ns hns₇ hL2
  have F₈ := N₈.vf F₇
  have a₈ := N₈.acc0 a₇
  -- if self._current_line.is_onlyws() and self._lines
  refine wpAny_execs_cons (gen_post fun Q5 E5 hQ5 => wpAny_If (PyProof.Rows.isTrue_and (PyProof.Rows.isTrue_plain ?_ rfl)))
  refine MethodCall_ (Attribute_name (nm_loc (v := .ref v) hns₈ (vf_line W N₈.st.toks F₈ (meth0 (f := 167) W N₈.st.toks a₈ ?_))))
  refine acc_onlyws W N₈.st.toks (hA₁.trans hA) (by omega) a₈ (Int.ne_of_gt hn) fun s₉ N₉ => wpAny_truthy_bool ?_
  rw [if_neg (by decide), if_neg (by decide)]
  have hns₉ := N₉.ns hns₈ hL2
  have F₉ := N₉.vf F₈
  have a₉ := N₉.acc0 a₈
  refine wpAny_execs_cons (gen_post fun Q6 E6 hQ6 => wpAny_Expr_any ?_)
  have hTl : ∀ T ∈ [] ++ [T'], T ≠ ln := fun T hT q => by
    simp at hT
    subst hT
    obtain ⟨its, ⟨ol, nl, el, _⟩, _⟩ := F.ls
    exact absurd (Heap.lt_size el) (Nat.not_lt.mpr (by rw [← q]; exact Nat.le_trans N₄₆.sz hT'))
  refine lines_append W N₉.st (hA₁.trans hA) (by omega) (by rw [hU₁]; show A.units + 3 + 2 < 9900; omega) F₉ a₉ D sm hrows hns₉ rfl hL2 hTl fun s₁₀ N₁₀ F₁₀ a₁₀ => hQ6 _ _ ?_
  refine wpAny_execs_nil (hQ5 _ _ ?_)
  show wpAny _ _ _ _ _ _
  refine wpAny_execs_nil (hQ4 _ _ ?_)
  show wpAny _ _ _ _ _ _
  -- self._current_line.reset()
  have hlL : ln < L := by
    obtain ⟨its, ⟨ol, nl, el, _⟩, _⟩ := F.ls
    rw [hL]; exact Heap.lt_size el
  have hns₁₀ := N₁₀.ns hns₉ hL2 (ni (Nat.ne_of_gt hlL))
  refine wpAny_execs_cons (wpAny_Expr_any ?_)
  refine MethodCall_ (Attribute_name (nm_loc (v := .ref v) hns₁₀ (vf_line W N₁₀.st F₁₀ (meth0 (f := 160) W N₁₀.st.toks a₁₀ ?_))))
  refine acc_reset W N₁₀.st.toks (hA₁.trans hA) (by omega) a₁₀ (by decide) fun s₁₁ N₁₁ a₁₁ => ?_
  refine wpAny_execs_nil (h s₁₁ ?_ (N₁₁.vf F₁₀ (ni2 D.vx D.vd) (ni2 D.dvx D.dvd) (ni2 D.lx D.ld)) a₁₁)
  have M₁₀ : Nx b [x, ln] s s₁₀ := ((N₀₇.toks.rt0 N₈).toks.rt0 N₉).trans N₁₀ (fun c hc => .inl (by simp at hc; simp [hc])) (fun c hc => .inl (by simp at hc; simp [hc]))
  exact M₁₀.toks.trans N₁₁ (fun c hc => .inl (by simp at hc ⊢; rcases hc with q | q <;> simp [q])) (fun c hc => .inl (by simp at hc ⊢; rcases hc with q | q <;> simp [q]))
end
end Mine
end -- C17
section -- C18
/-! C18: _append_chunk where the word does not fit and the line holds words -/
set_option maxRecDepth 100000
namespace Mine
open PySem PySem.W PySem.Calls PyProof.Rows Builtin Builtin.ObjectAttr
set_option maxHeartbeats 2000000
section
variable {w : World} {A : Around} {E : Value → Shared → Prop} {s : Shared} {b : Heap} {mg mb : Str → Option Value} {bm : Addr} {ob : Obj} {env : Env}

theorem getItem_acc_int {x dx T : Addr} {n k : Int} {ti : Tok} {Ts : List Addr} {ps : List (Str × Str)} {Q : Value → Shared → Prop} (W : WW w b mg mb bm ob) (st : St b s) (a : Acc w b s.heap x dx n Ts ps) (h0 : 0 ≤ k) (hi : k < 1000) (hT : Ts[k.toNat]? = some T)
    (h : Q (.ref T) s) : wpAny (model PW w) A (getItem (.ref x) (.int k ti)) Q E s := by
  obtain ⟨k₀, t, t', k', I⟩ := a.inst
  unfold getItem
  try with_reducible refine wpAny_holding ?_
  refine wpAny_bind (seqKey_acc (x := .none) W st I ?_)
  refine wpAny_bind (special_b W st I (by kernel_rfl) slot_list_getitem.bind ?_)
  refine call_sub (n := "__getitem__") (st.k W) I (by kernel_rfl) (by first | exact .inl (by decide +kernel) | exact .inr (by decide +kernel)) (by decide +kernel) (by decide +kernel) entry_list_getitem (args_list_getitem _ _) ?_
  show wpAny _ _ (Builtin.List.listSubscript? (.int k ti) >>= _) _ _ s
  refine wpAny_bind (wpAny_listSubscript_int (fitsIndex_of h0 (by omega)) ?_)
  clear hi
  obtain ⟨j, rfl⟩ := Int.eq_ofNat_of_zero_le h0
  have hx' : ((Ts.map Value.ref).toArray)[j]? = some (.ref T) := by
    have : Ts[j]? = some T := hT
    simp [this]
  show wpAny _ _ ((seqItemAt x j >>= fun r => pure (r.map (j, ·))) >>= _) _ _ s
  refine wpAny_bind (wpAny_bind (wpAny_seqItemAt I.at_ rfl (wpAny_pure ?_)))
  rw [hx']
  first
    | exact wpAny_bind (wpAny_pure (wpAny_pure ⟨_, rfl, wpAny_pure h⟩))
    | exact wpAny_pure ⟨_, rfl, wpAny_pure h⟩

/-- line[i] -/
theorem sub_acc_int {value e2 : Expr} {pos : Pos} {Q : Value → Shared → Prop} (W : WW w b mg mb bm ob)
    (h : wpAny (model PW w) A (eval value env) (fun o s₁ => wpAny (model PW w) A (eval e2 env) (fun i s₂ => ∃ x dx n T Ts ps j t, o = .ref x ∧ i = .int (j : Nat) t ∧ j < 1000 ∧ Ts[j]? = some T ∧ Acc w b s₂.heap x dx n Ts ps ∧ St b s₂ ∧ Q (.ref T) s₂) E s₁) E s)
    (hs : ∀ (l : Addr) (k : Int) (u : Tok), subscripted e2 false (.ref l) (.int k u) = operate [.ref l, .int k u] (getItem (.ref l) (.int k u)) := by intro _ _ _; with_unfolding_all rfl) :
    wpAny (model PW w) A (eval (.Subscript value e2 pos) env) Q E s := by
  rw [arm_eval_Subscript]
  refine wpAny_bind (wpAny_mono h (fun o s₁ h₁ => wpAny_bind (wpAny_holding (wpAny_mono h₁ (fun i s₂ h₂ => wpAny_bind (wpAny_standAt ?_)) fun _ _ x => x))) fun _ _ x => x)
  obtain ⟨x, dx, n, T, Ts, ps, j, t, rfl, rfl, hj, hT, a, st, hq⟩ := h₂
  obtain ⟨k, tt, t', k', I⟩ := a.inst
  refine wpAny_bind ?_
  unfold getitemInPython
  have L : Looks (model PW w) s₂.heap (specialOf (.ref x) "__getitem__") (some (.builtin "list.__getitem__")) := I.type.andThen (looks_findIn (st.k W) (by kernel_rfl))
  have fin : wpAny (model PW w) A (subscripted e2 false (.ref x) (.int (j : Nat) t)) (fun r s₃ => wpAny (model PW w) A (letTemporaryGo value (.ref x) r >>= fun _ => pure r) Q E s₃) E s₂ := by
    rw [hs]
    exact wpAny_operating (getItem_acc_int (k := (j : Int)) W st a (Int.ofNat_nonneg _) (by omega) hT (wpAny_bind (wpAny_letTemporaryGo (wpAny_pure hq))))
  refine wpAny_bind (L.here ?_)
  first
    | exact wpAny_pure (wpAny_bind fin)
    | exact wpAny_bind (wpAny_pure (wpAny_bind fin))
    | exact wpAny_bind fin
/-- t[0] of a pair -/
theorem sub_pair0 {value e2 : Expr} {pos : Pos} {Q : Value → Shared → Prop}
    (h : wpAny (model PW w) A (eval value env) (fun o s₁ => wpAny (model PW w) A (eval e2 env) (fun i s₂ => ∃ T f p t, o = .ref T ∧ i = .int 0 t ∧ TupAt s₂.heap T (f, p) ∧ ∀ t1, Q (.str f t1) s₂) E s₁) E s)
    (hs : ∀ (l : Addr) (k : Int) (u : Tok), subscripted e2 false (.ref l) (.int k u) = operate [.ref l, .int k u] (getItem (.ref l) (.int k u)) := by intro _ _ _; with_unfolding_all rfl) :
    wpAny (model PW w) A (eval (.Subscript value e2 pos) env) Q E s := by
  refine Subscript_ (wpAny_mono h (fun o s₁ h₁ => wpAny_mono h₁ (fun i s₂ h₂ => ?_) fun _ _ x => x) fun _ _ x => x)
  obtain ⟨T, f, p, t, rfl, rfl, ⟨t1, t2, hl⟩, hq⟩ := h₂
  have hl' : IsTup s₂.heap T #[.str f t1, .str p t2] := hl
  exact tail_any hl'.typeIs slot_tuple_getitem.lookup (getItem_tuple (j := 0) hl' (by decide) (by decide) rfl rfl (hq t1)) (hs _ _ _)
end
end Mine
end -- C18
section -- C19
/-! C19: _append_chunk where the word does not fit and the line holds words -/
set_option maxRecDepth 100000
namespace Mine
open PySem PySem.W PySem.Calls PyProof.Rows Builtin Builtin.ObjectAttr
set_option maxHeartbeats 2000000
section
variable {w : World} {A : Around} {E : Value → Shared → Prop} {s : Shared} {b : Heap} {mg mb : Str → Option Value} {bm : Addr} {ob : Obj} {env : Env}

theorem append_flush {v dv ln x dx : Addr} {mx n : Int} {rows : List Str} {Ts : List Addr} {ps : List (Str × Str)} {p : Str} {t1 t2 : Tok} {Q : Value → Shared → Prop} (W : WW w b mg mb bm ob) (st : St b s) (hA : A.handled = none) (hD : A.depth < 800) (hu : A.units < 9000)
    (F : VF w b s.heap v dv ln x mx rows) (a : Acc w b s.heap x dx n Ts ps) (D : Dis v dv ln x dx) (sm : Small n (ps ++ [(Str.ofString " ", p)])) (hps : 1 ≤ ps.length) (hpl : ps.length ≤ 100) (hfit : mx < n + plen (ps ++ [(Str.ofString " ", p)])) (hrows : rows.length ≤ 1000) (hTl : ∀ T ∈ Ts, T ≠ ln)
    (h : ∀ s' T, Nx b [x, dx, ln] s s' → VF w b s'.heap v dv ln x mx (rows ++ [ptext ps]) → Acc w b s'.heap x dx 0 [T] [(Str.ofString " ", p)] → T ≠ ln → Q .none s') : wpAny (model PW w) A (call (.ref 91) [.ref v, .str (Str.ofString " ") t1, .str p t2]) Q E s := by
  refine enter (f := 91) (binds := [(Str.ofString "self", .ref v), (Str.ofString "fws", .str (Str.ofString " ") t1), (Str.ofString "string", .str p t2)]) W st (Nat.lt_trans hD (by decide)) rfl rfl (by kernel_rfl) (BindsTo.of_eq rfl) (by decide) (locs rfl) (fun A₁ s₁ E' L hA₁ hD₁ hU₁ hL N₁ hLs hns => ?_)
  have hA₁' := hA₁.trans hA
  have hL2 : 232 < L := by rw [hL]; exact st.lt W
  have fL : b.get? L = none := st.fresh (Nat.le_of_eq hL.symm)
  have hxL : x < L := by rw [hL]; exact a.ltx
  have F₁ := N₁.vf F
  have a₁ := N₁.acc0 a
  have nx : ∀ c, c ≠ x → c ∉ [x] := fun c h q => h (List.mem_singleton.mp q)
  -- self._current_line.push(fws, string)
  refine wpAny_execs_cons (gen_post fun Q1 E1 hQ1 => wpAny_Expr_any ?_)
  refine MethodCall_ (Attribute_name (nm_loc (v := .ref v) hns (vf_line W N₁.st F₁ ?_)))
  refine meth1 (f := 122) W N₁.st.toks a₁ ?_
  refine spliced_more (nm_loc (v := .str (Str.ofString " ") t1) hns (spliced_more (nm_loc (v := .str p t2) hns (spliced_none ⟨N₁.st.toks, ?_⟩))))
  refine acc_push W N₁.st.toks hA₁' (by omega) a₁ (by omega) fun s₂ T N₂ a₂ hT => ?_
  have N₀₂ : Nx b [x] s s₂ := N₁.toks.lt0 N₂
  have F₂ := N₀₂.vf F (nx _ D.vx) (nx _ D.dvx) (nx _ D.lx)
  have hns₂ := N₂.ns hns hL2 (nx _ (Nat.ne_of_gt hxL))
  refine hQ1 _ _ ?_
  show wpAny _ _ _ _ _ _
  -- if len(line) > maxlen
  refine wpAny_execs_cons (gen_post fun Q2 E2 hQ2 => wpAny_If (wpAny_isTrue_Compare1 ?_))
  refine Call_ (nm_bi W N₂.st rfl ?_)
  refine PyProof.Rows.callWith_builtin1 (spliced_more (Attribute_name (nm_loc (v := .ref v) hns₂ (vf_line W N₂.st F₂ (spliced_none ?_)))))
  refine len_acc W N₂.st.toks hA₁' (by omega) a₂ sm fun s₃ tk N₃ => ?_
  have F₃ := N₃.vf F₂
  have hns₃ := N₃.ns hns₂ hL2
  have a₃ := N₃.acc0 a₂
  refine Attribute_name (nm_loc (v := .ref v) hns₃ (vf_maxlen W N₃.st F₃ fun tm => ?_))
  refine PyProof.Rows.gt_int (wpAny_truthy_bool ?_)
  rw [if_pos (by simp; omega)]
  have st₃ := N₃.st.toks (k := s₃.toks + 1)
  -- for ch in self._splitchars
  refine wpAny_execs_cons (gen_post fun Q3 E3 hQ3 => wpAny_For (Attribute_name (nm_loc (v := .ref v) hns₃ (vf_split W st₃ F₃ fun tc => ?_))))
  refine ITV.str W A₁ [] _ _ _ _ hA₁' st₃.toks (fun _ h => nomatch h) ⟨tc, rfl⟩ fun I J s₄ N₄ it j₀ hI => ?_
  refine codeAny_forLoop (fun n s' => n = 1 ∧ s₄ = s') ?_ 1 ⟨rfl, rfl⟩
  rintro _ s' ⟨rfl, rfl⟩
  refine it.item hA₁' (i := 0) (P := strV (Str.ofString " ")) rfl N₄.st j₀ fun cv s₅ N₅ j₁ pc => ?_
  obtain ⟨tcc, rfl⟩ := pc
  have N₃₅ : Nx b [] s₃ s₅ := ((Nx.refl N₃.st).toks.toks.tr N₄).trans N₅ (fun _ h => nomatch h) (fun c hc => .inr (by rw [List.mem_singleton.mp hc]; exact hI))
  have sz₃ : L < s₃.heap.objs.size := Nat.lt_of_lt_of_le hLs (Nat.le_trans (show s₁.heap.objs.size ≤ s₂.heap.objs.size from N₂.sz) (show s₂.heap.objs.size ≤ s₃.heap.objs.size from N₃.sz))
  have lL : ∀ {c : Addr} {o : Obj}, s.heap.get? c = some o → c ≠ L := fun e q => absurd (Heap.lt_size e) (by rw [q, hL]; exact Nat.lt_irrefl _)
  have vL : v ≠ L := lL F.at_
  have dvL : dv ≠ L := by obtain ⟨_, _, _, _, _, _, _, _, _, _, _, e⟩ := F.di; exact lL e
  have lnL : ln ≠ L := by obtain ⟨its, ⟨ol, nl, el, _⟩, _⟩ := F.ls; exact lL el
  have dxL : dx ≠ L := by obtain ⟨_, _, _, e⟩ := a.di; exact lL e
  have TL : ∀ T' ∈ Ts ++ [T], T' ∉ [L] := fun T' hT' q => by
    have q' := List.mem_singleton.mp q
    rcases List.mem_append.mp hT' with h1 | h1
    · have := a.ltT h1; rw [q', hL] at this; exact Nat.lt_irrefl _ this
    · rw [List.mem_singleton.mp h1] at q'; rw [q'] at hT; exact absurd hLs (Nat.not_lt.mpr hT)
  have FK : ∀ {sK : Shared}, Nx b [L] s₃ sK → VF w b sK.heap v dv ln x mx rows := fun N => N.vf F₃ (ni vL) (ni dvL) (ni lnL)
  have AK : ∀ {sK : Shared}, Nx b [L] s₃ sK → Acc w b sK.heap x dx n (Ts ++ [T]) (ps ++ [(Str.ofString " ", p)]) := fun N => a₃.nx N (ni (Nat.ne_of_lt hxL)) (ni dxL) TL
  have hns₅ := N₃₅.ns hns₃ hL2
  refine wpAny_assign_Name (set_loc N₅.st hns₅ hL2 fL fun s₆ N₆ hns₆ => gen_post fun Q4 E4 hQ4 => ?_)
  have N₃₆ : Nx b [L] s₃ s₆ := N₃₅.lt0 N₆
  -- for i in range(self._current_line.part_count() - 1, 0, -1)
  refine wpAny_execs_cons (gen_post fun Q5 E5 hQ5 => wpAny_For (Call_ (nm_bi W N₆.st (show bootBuiltins "range" = some (.type "range") from rfl) (PyProof.Rows.callWith_type1 (spliced_more (wpAny_BinOp (MethodCall_ (Attribute_name (nm_loc (v := .ref v) hns₆ (vf_line W N₆.st (FK N₃₆) (meth0 (f := 175) W N₆.st.toks (AK N₃₆.toks) ?_)))))))))))
  refine acc_count W N₆.st.toks hA₁' (by omega) (AK N₃₆.toks) fun s₇ tk₇ N₇ => ?_
  have N₃₇ : Nx b [L] s₃ s₇ := N₃₆.toks.rt0 N₇
  have hns₇ := N₇.ns hns₆ hL2
  have hlen : (ps ++ [(Str.ofString " ", p)]).length = ps.length + 1 := by simp
  refine wpAny_Constant_int (PyProof.Rows.sub_int' (spliced_more (wpAny_Constant_int (spliced_more (wpAny_UnaryOp (wpAny_Constant_int (PyProof.Rows.neg_int (spliced_none ?_))))))))
  rw [hlen, show ((ps.length + 1 : Nat) : Int) - 1 = (ps.length : Int) by omega]
  have N₃₈ := N₃₇.toks (k := s₇.toks + 1 + 1 + 1 + 1 + 1)
  have N₃₉ := N₃₈.rt0 (Nx.push N₃₈.st (o := { cls := .type "range", data := .fields #[.int (ps.length : Int) (s₇.toks + 1), .int 0 (s₇.toks + 1 + 1), .int (-1) (s₇.toks + 1 + 1 + 1 + 1)] }))
  have hks : Builtin.Range.small (ps.length : Int) 0 (-1) = true := small_down (by omega) (by omega) (by omega) (by omega)
  have hrs : Builtin.Range.rangeSize (ps.length : Int) 0 (-1) = (ps.length : Int) := by rw [rangeSize_down]; split <;> omega
  refine call_range_3 (by decide) ?_ (.inl (PyProof.noPylong_small (by omega)))
  refine wpAny_pyIter_range (IsRange.new ..) hks ?_
  rw [hrs]
  have N₃₁₀ := N₃₉.rt0 (Nx.push N₃₉.st (o := { cls := .type "range_iterator", data := .fields #[rawInt (ps.length : Int), rawInt (ps.length : Int), rawInt (-1)] }))
  have hit : IsRangeIter (((s₇.heap.push { cls := .type "range", data := .fields #[.int (ps.length : Int) (s₇.toks + 1), .int 0 (s₇.toks + 1 + 1), .int (-1) (s₇.toks + 1 + 1 + 1 + 1)] })).push { cls := .type "range_iterator", data := .fields #[rawInt (ps.length : Int), rawInt (ps.length : Int), rawInt (-1)] }) _ (ps.length : Int) (ps.length : Int) (-1) := Heap.get?_push_size _ rfl
  refine codeAny_forLoop (fun n s' => n = 1 ∧ (Shared.mk _ _ _ _ _) = s') ?_ 1 ⟨rfl, rfl⟩
  rintro _ s' ⟨rfl, rfl⟩
  refine wpAny_pyNext_range_item hit (by omega) fun h₁₁ hit₁₁ hs₁₁ => ?_
  have gz : ∀ {k : Nat}, s₇.heap.objs.size ≤ k → 232 < k := fun h => Nat.lt_of_lt_of_le (N₇.st.lt W) h
  have hI2 : s₇.heap.objs.size ≤ (s₇.heap.push { cls := .type "range", data := .fields #[.int (ps.length : Int) (s₇.toks + 1), .int 0 (s₇.toks + 1 + 1), .int (-1) (s₇.toks + 1 + 1 + 1 + 1)] }).objs.size := by rw [Heap.size_push]; exact Nat.le_succ _
  have N₇₁₀ : Nx b [] s₇ _ := (((Nx.refl N₇.st).toks (k := s₇.toks + 1 + 1 + 1 + 1 + 1)).tr (Nx.push N₃₈.st (o := { cls := .type "range", data := .fields #[.int (ps.length : Int) (s₇.toks + 1), .int 0 (s₇.toks + 1 + 1), .int (-1) (s₇.toks + 1 + 1 + 1 + 1)] }))).tr (Nx.push N₃₉.st (o := { cls := .type "range_iterator", data := .fields #[rawInt (ps.length : Int), rawInt (ps.length : Int), rawInt (-1)] }))
  have N₇₁₁ : Nx b [] s₇ _ := N₇₁₀.trans (Nx.same (tk := s₇.toks + 1 + 1 + 1 + 1 + 1 + 1) N₇₁₀.st hs₁₁ (gz hI2) (N₇.st.fresh hI2) (fun o e => by rw [hit] at e; cases e; rfl)) (fun _ h => nomatch h) (fun c hc => .inr (by rw [List.mem_singleton.mp hc]; exact hI2))
  have hns₁₁ := N₇₁₁.ns hns₇ hL2
  have N₃₁₁ := N₃₇.rt0 N₇₁₁
  refine wpAny_assign_Name (set_loc N₇₁₁.st hns₁₁ hL2 fL fun s₁₂ N₁₂ hns₁₂ => gen_post fun Q6 E6 hQ6 => ?_)
  have N₃₁₂ := N₃₁₁.tr N₁₂
  -- if ch.isspace()
  refine wpAny_execs_cons (wpAny_If (PyProof.Rows.isTrue_plain ?_ rfl))
  refine MethodCall_ (nm_loc (v := .str (Str.ofString " ") tcc) hns₁₂ (GM.isspace (PyProof.Rows.callWith_method0 (SC.isspace (wpAny_truthy_bool ?_)))))
  rw [if_pos (by decide +kernel)]
  -- fws = self._current_line[i][0]
  have hTi : (Ts ++ [T])[ps.length]? = some T := by rw [← a.len]; simp
  refine wpAny_execs_cons (wpAny_Assign_Name (sub_pair0 (sub_acc_int W (Attribute_name (nm_loc (v := .ref v) hns₁₂ (vf_line W N₁₂.st (FK N₃₁₂) (nm_loc (s := { s₁₂ with toks := s₁₂.toks + 1 }) (v := .int (ps.length : Int) (s₇.toks + 1 + 1 + 1 + 1 + 1)) hns₁₂
    ⟨x, dx, n, T, _, _, ps.length, _, rfl, rfl, by omega, hTi, AK N₃₁₂.toks, N₁₂.st.toks, wpAny_Constant_int ⟨T, Str.ofString " ", p, _, rfl, rfl, (AK N₃₁₂.toks).tup ps.length T _ hTi (by simp), fun t5 => ?_⟩⟩)))))))
  refine set_loc (N₁₂.st.toks (k := s₁₂.toks + 1 + 1)) hns₁₂ hL2 fL fun s₁₃ N₁₃ hns₁₃ => ?_
  have N₃₁₃ := N₃₁₂.toks.tr N₁₃
  show wpAny _ _ _ _ _ _
  -- if fws and fws[0] == ch: break
  refine wpAny_execs_cons (wpAny_If (PyProof.Rows.isTrue_and (PyProof.Rows.isTrue_plain (nm_loc (v := .str (Str.ofString " ") t5) hns₁₃ ?_) rfl)))
  refine PySem.P.truthy_str (by decide) ?_
  rw [if_pos (by decide)]
  refine PyProof.Rows.isTrue_and (wpAny_isTrue_Compare1 (Subscript_ (nm_loc (s := { s₁₃ with toks := s₁₃.toks + 1 + 1 }) (v := .str (Str.ofString " ") t5) hns₁₃ (wpAny_Constant_int (tail_any (typeIs_str _ _ _) PySem.F.slot_str_getitem.lookup (PySem.P.getItem_str (c := 32) (by decide) (by decide +kernel) ?_) (by with_unfolding_all rfl))))))
  refine nm_loc (s := { s₁₃ with toks := s₁₃.toks + 1 + 1 + 1 + 1 }) (v := .str (Str.ofString " ") tcc) hns₁₃ (PyProof.Rows.eq_str (wpAny_truthy_bool ?_))
  rw [if_pos (by decide +kernel)]
  refine PyProof.Rows.isTrue_and_nil ?_
  rw [if_pos rfl]
  refine wpAny_execs_cons (wpAny_Break ?_)
  refine hQ6 _ _ (hQ5 _ _ ?_)
  show wpAny _ _ _ _ _ _
  refine wpAny_execs_cons (wpAny_Break ?_)
  refine hQ4 _ _ (hQ3 _ _ ?_)
  show wpAny _ _ _ _ _ _
  have st₁₃ := N₁₃.st.toks (k := s₁₃.toks + 1 + 1 + 1 + 1)
  have N₃₁₄ := N₃₁₃.toks (k := s₁₃.toks + 1 + 1 + 1 + 1)
  -- remainder = self._current_line.pop_from(i)
  refine wpAny_execs_cons (gen_post fun Q7 E7 hQ7 => wpAny_Assign_Name (MethodCall_ (Attribute_name (nm_loc (s := { s₁₃ with toks := s₁₃.toks + 1 + 1 + 1 + 1 }) (v := .ref v) hns₁₃ (vf_line W st₁₃ (FK N₃₁₄) (meth1 (f := 130) W st₁₃.toks (AK N₃₁₄.toks) ?_))))))
  refine spliced_more (nm_loc (s := { s₁₃ with toks := s₁₃.toks + 1 + 1 + 1 + 1 + 1 }) (v := .int (ps.length : Int) (s₇.toks + 1 + 1 + 1 + 1 + 1)) hns₁₃ (spliced_none ⟨st₁₃.toks, ?_⟩))
  refine acc_pop_from W st₁₃.toks hA₁' (by omega) (AK N₃₁₄.toks) (by rw [hlen]; omega) (by rw [hlen]; omega) fun s₁₅ r N₁₅ hr gr a₁₅ => ?_
  have e1 : (Ts ++ [T]).take ps.length = Ts := by rw [← a.len]; simp
  have e2 : (ps ++ [(Str.ofString " ", p)]).take ps.length = ps := by simp
  have e3 : (Ts ++ [T]).drop ps.length = [T] := by rw [← a.len]; simp
  rw [e1, e2] at a₁₅
  rw [e3] at hr
  have sz₁₃ : s₃.heap.objs.size ≤ s₁₃.heap.objs.size := N₃₁₃.sz
  have rL : L < r := Nat.lt_of_lt_of_le sz₃ (Nat.le_trans sz₁₃ gr)
  have lx : L ≠ x := Nat.ne_of_gt hxL
  have hns₁₅ := N₁₅.ns (s := { s₁₃ with toks := s₁₃.toks + 1 + 1 + 1 + 1 + 1 }) hns₁₃ hL2 (ni lx)
  refine set_loc N₁₅.st hns₁₅ hL2 fL fun s₁₆ N₁₆ hns₁₆ => hQ7 _ _ ?_
  show wpAny _ _ _ _ _ _
  have TL' : ∀ T' ∈ Ts, T' ∉ [L] := fun T' h => TL T' (List.mem_append_left _ h)
  have a₁₆ := a₁₅.nx N₁₆ (ni (Nat.ne_of_lt hxL)) (ni dxL) TL'
  have F₁₅ := N₁₅.vf (FK N₃₁₄.toks) (nx _ D.vx) (nx _ D.dvx) (nx _ D.lx)
  have F₁₆ := N₁₆.vf F₁₅ (ni vL) (ni dvL) (ni lnL)
  have hTT : TupAt s₁₆.heap T (Str.ofString " ", p) := by
    have gT : 232 < T := Nat.lt_of_lt_of_le (N₁.st.lt W) hT
    have tx : T ∉ [x] := ni fun q => by
      have := a.ltx
      rw [← q] at this
      exact absurd (Nat.lt_of_lt_of_le this N₁.sz) (Nat.not_lt.mpr hT)
    exact N₁₆.tup (N₁₅.tup ((AK N₃₁₄.toks).tup ps.length T _ hTi (by simp)) gT tx) gT (TL T (by simp))
  have hr₁₆ : s₁₆.heap.IsList r ([T].map Value.ref).toArray := lst_nx hr N₁₆ (Nat.lt_trans hL2 rL) (ni (Nat.ne_of_gt rL))
  have sm' : Small n ps := ⟨sm.1, sm.2.1, by omega, fun q hq => sm.2.2.2 q (List.mem_append_left _ hq)⟩
  -- self._lines.append(str(self._current_line))
  refine wpAny_execs_cons (wpAny_Expr_any ?_)
  refine lines_append W N₁₆.st hA₁' (by omega) (by rw [hU₁]; show A.units + 3 + 2 < 9900; omega) F₁₆ a₁₆ D sm' hrows hns₁₆ rfl hL2 hTl fun s₁₇ N₁₇ F₁₇ a₁₇ => ?_
  have hns₁₇ := N₁₇.ns hns₁₆ hL2 (ni lnL.symm)
  have lnlt : ln < s.heap.objs.size := by obtain ⟨its, ⟨ol, nl, el, _⟩, _⟩ := F.ls; exact Heap.lt_size el
  have Tln : T ≠ ln := fun q => absurd (Nat.lt_of_lt_of_le lnlt N₁.sz) (Nat.not_lt.mpr (by rw [← q]; exact hT))
  have rln : r ≠ ln := fun q => absurd lnlt (Nat.not_lt.mpr (by rw [← q, ← hL]; exact Nat.le_of_lt rL))
  have gT : 232 < T := Nat.lt_of_lt_of_le (N₁.st.lt W) hT
  -- self._current_line.reset(remainder)
  refine wpAny_execs_cons (wpAny_Expr_any ?_)
  refine MethodCall_ (Attribute_name (nm_loc (v := .ref v) hns₁₇ (vf_line W N₁₇.st F₁₇ (meth1 (f := 160) W N₁₇.st.toks a₁₇ ?_))))
  refine spliced_more (nm_loc (s := { s₁₇ with toks := s₁₇.toks + 1 }) (v := .ref r) hns₁₇ (spliced_none ⟨N₁₇.st.toks, ?_⟩))
  refine acc_reset_to W N₁₇.st.toks hA₁' (by omega) a₁₇ (by omega) (by show 1 ≤ 1000; omega) (lst_nx hr₁₆ N₁₇.toks (Nat.lt_trans hL2 rL) (ni rln)) (Nat.lt_trans hL2 rL) rfl (ps' := [(Str.ofString " ", p)]) (fun j T' q h1 h2 => ?_) (fun T' h => by rw [List.mem_singleton.mp h]; exact gT) fun s₁₈ N₁₈ a₁₈ => ?_
  · match j, h1, h2 with
    | 0, h1, h2 => cases h1; cases h2; exact N₁₇.toks.tup hTT gT (ni Tln)
    | j + 1, h1, h2 => simp at h1
  refine wpAny_execs_nil (hQ2 _ _ ?_)
  show wpAny _ _ _ _ _ _
  refine wpAny_execs_nil (h s₁₈ T ?_ (N₁₈.vf F₁₇ (ni2 D.vx D.vd) (ni2 D.dvx D.dvd) (ni2 D.lx D.ld)) a₁₈ Tln)
  have M₃ : Nx b [x] s s₃ := N₀₂.toks.rt0 N₃
  have M₁₄ : Nx b [x] s _ := M₃.trans (N₃₁₄.toks (k := s₁₃.toks + 1 + 1 + 1 + 1 + 1)) (fun c hc => .inl hc) (fun c hc => .inr (by rw [List.mem_singleton.mp hc]; exact Nat.le_of_eq hL.symm))
  have M₁₆ : Nx b [x] s s₁₆ := (M₁₄.tr N₁₅).trans N₁₆ (fun c hc => .inl hc) (fun c hc => .inr (by rw [List.mem_singleton.mp hc]; exact Nat.le_of_eq hL.symm))
  have M₁₇ : Nx b [x, ln] s s₁₇ := M₁₆.trans N₁₇ (fun c hc => .inl (by simp at hc; simp [hc])) (fun c hc => .inl (by simp at hc; simp [hc]))
  exact M₁₇.toks.trans N₁₈ (fun c hc => .inl (by simp at hc ⊢; rcases hc with q | q <;> simp [q])) (fun c hc => .inl (by simp at hc ⊢; rcases hc with q | q <;> simp [q]))
end
end Mine
end -- C19
section -- C20
/-! C20: _append_chunk where the word does not fit and the line holds no word -/
set_option maxRecDepth 100000
namespace Mine
open PySem PySem.W PySem.Calls PyProof.Rows Builtin Builtin.ObjectAttr
set_option maxHeartbeats 2000000
section
variable {w : World} {A : Around} {E : Value → Shared → Prop} {s : Shared} {b : Heap} {mg mb : Str → Option Value} {bm : Addr} {ob : Obj} {env : Env}

theorem vf_meth {v dv ln x f : Addr} {mx : Int} {rows : List Str} {name : Str} {pl : Sem Bool} {Q : Value × List Value → Shared → Prop} (W : WW w b mg mb bm ob) (st : St b s) (F : VF w b s.heap v dv ln x mx rows) (h : Q (.ref f, [.ref v]) s)
    (hf : findIn (KK w) (.ref 94) name = some (some (.ref f)) := by kernel_rfl) (ht : typeIn (KK w) (.ref f) = some (.type "function") := by kernel_rfl)
    (hl : ∀ t1 t2 t3 t4 t5 t6 u1 u2 u3 u4, getL name (vfDict w t1 t2 t3 t4 t5 t6 u1 u2 u3 u4 mx ln x) = some none := by intro _ _ _ _ _ _ _ _ _ _; rfl) : wpAny (model PW w) A (getMethod (.ref v) name pl) Q E s := by
  obtain ⟨t1, t2, t3, t4, t5, t6, u1, u2, u3, u4, k, e⟩ := F.di
  exact method_fn (K := KK w) (C := 94) (od := some (dictOf (vfDict w t1 t2 t3 t4 t5 t6 u1 u2 u3 u4 mx ln x) k)) (st.k W) ⟨F.at_, rfl, rfl, e⟩ (by kernel_rfl) (by kernel_rfl) hf ht (by show (lookIn name (dictOf _ _)).map _ = _; rw [lookIn_dict, hl]; rfl) h

theorem append_alone {v dv ln x dx : Addr} {mx n : Int} {rows : List Str} {p : Str} {t1 t2 : Tok} {Q : Value → Shared → Prop} (W : WW w b mg mb bm ob) (st : St b s) (hA : A.handled = none) (hD : A.depth < 800) (hu : A.units < 8000)
    (F : VF w b s.heap v dv ln x mx rows) (a : Acc w b s.heap x dx n [] []) (D : Dis v dv ln x dx) (sm : Small n [(Str.ofString " ", p)]) (hfit : mx < n + plen [(Str.ofString " ", p)]) (hrows : rows.length ≤ 1000)
    (h : ∀ s' T, Nx b [x, dx, ln] s s' → VF w b s'.heap v dv ln x mx (if 0 < n then rows ++ [ptext [(Str.ofString "", Str.ofString "")]] else rows) → Acc w b s'.heap x dx 0 [T] [(Str.ofString " ", p)] → T ≠ ln → Q .none s') : wpAny (model PW w) A (call (.ref 91) [.ref v, .str (Str.ofString " ") t1, .str p t2]) Q E s := by
  refine enter (f := 91) (binds := [(Str.ofString "self", .ref v), (Str.ofString "fws", .str (Str.ofString " ") t1), (Str.ofString "string", .str p t2)]) W st (Nat.lt_trans hD (by decide)) rfl rfl (by kernel_rfl) (BindsTo.of_eq rfl) (by decide) (locs rfl) (fun A₁ s₁ E' L hA₁ hD₁ hU₁ hL N₁ hLs hns => ?_)
  have hA₁' := hA₁.trans hA
  have hL2 : 232 < L := by rw [hL]; exact st.lt W
  have fL : b.get? L = none := st.fresh (Nat.le_of_eq hL.symm)
  have hxL : x < L := by rw [hL]; exact a.ltx
  have F₁ := N₁.vf F
  have a₁ := N₁.acc0 a
  have nx : ∀ c, c ≠ x → c ∉ [x] := fun c h q => h (List.mem_singleton.mp q)
  -- self._current_line.push(fws, string)
  refine wpAny_execs_cons (gen_post fun Q1 E1 hQ1 => wpAny_Expr_any ?_)
  refine MethodCall_ (Attribute_name (nm_loc (v := .ref v) hns (vf_line W N₁.st F₁ ?_)))
  refine meth1 (f := 122) W N₁.st.toks a₁ ?_
  refine spliced_more (nm_loc (v := .str (Str.ofString " ") t1) hns (spliced_more (nm_loc (v := .str p t2) hns (spliced_none ⟨N₁.st.toks, ?_⟩))))
  refine acc_push W N₁.st.toks hA₁' (by omega) a₁ (Nat.zero_le _) fun s₂ T N₂ a₂ hT => ?_
  have N₀₂ : Nx b [x] s s₂ := N₁.toks.lt0 N₂
  have F₂ := N₀₂.vf F (nx _ D.vx) (nx _ D.dvx) (nx _ D.lx)
  have hns₂ := N₂.ns hns hL2 (nx _ (Nat.ne_of_gt hxL))
  refine hQ1 _ _ ?_
  show wpAny _ _ _ _ _ _
  -- if len(line) > maxlen
  refine wpAny_execs_cons (gen_post fun Q2 E2 hQ2 => wpAny_If (wpAny_isTrue_Compare1 ?_))
  refine Call_ (nm_bi W N₂.st rfl ?_)
  refine PyProof.Rows.callWith_builtin1 (spliced_more (Attribute_name (nm_loc (v := .ref v) hns₂ (vf_line W N₂.st F₂ (spliced_none ?_)))))
  refine len_acc W N₂.st.toks hA₁' (by omega) a₂ sm fun s₃ tk N₃ => ?_
  have F₃ := N₃.vf F₂
  have hns₃ := N₃.ns hns₂ hL2
  have a₃ := N₃.acc0 a₂
  refine Attribute_name (nm_loc (v := .ref v) hns₃ (vf_maxlen W N₃.st F₃ fun tm => ?_))
  refine PyProof.Rows.gt_int (wpAny_truthy_bool ?_)
  rw [if_pos (by simp at hfit ⊢; omega)]
  have st₃ := N₃.st.toks (k := s₃.toks + 1)
  have sz₃ : L < s₃.heap.objs.size := Nat.lt_of_lt_of_le hLs (Nat.le_trans (show s₁.heap.objs.size ≤ s₂.heap.objs.size from N₂.sz) (show s₂.heap.objs.size ≤ s₃.heap.objs.size from N₃.sz))
  have lL : ∀ {c : Addr} {o : Obj}, s.heap.get? c = some o → c ≠ L := fun e q => absurd (Heap.lt_size e) (by rw [q, hL]; exact Nat.lt_irrefl _)
  have vL : v ≠ L := lL F.at_
  have dvL : dv ≠ L := by obtain ⟨_, _, _, _, _, _, _, _, _, _, _, e⟩ := F.di; exact lL e
  have lnL : ln ≠ L := by obtain ⟨its, ⟨ol, nl, el, _⟩, _⟩ := F.ls; exact lL el
  have dxL : dx ≠ L := by obtain ⟨_, _, _, e⟩ := a.di; exact lL e
  have TL : ∀ T' ∈ [T], T' ∉ [L] := fun T' hT' q => by
    have q' := List.mem_singleton.mp q
    rw [List.mem_singleton.mp hT'] at q'; rw [q'] at hT; exact absurd hLs (Nat.not_lt.mpr hT)
  have FK : ∀ {sK : Shared}, Nx b [L] s₃ sK → VF w b sK.heap v dv ln x mx rows := fun N => N.vf F₃ (ni vL) (ni dvL) (ni lnL)
  have AK : ∀ {sK : Shared}, Nx b [L] s₃ sK → Acc w b sK.heap x dx n ([T]) [(Str.ofString " ", p)] := fun N => a₃.nx N (ni (Nat.ne_of_lt hxL)) (ni dxL) TL
  -- for ch in self._splitchars
  refine wpAny_execs_cons (gen_post fun Q3 E3 hQ3 => wpAny_For (Attribute_name (nm_loc (v := .ref v) hns₃ (vf_split W st₃ F₃ fun tc => ?_))))
  refine ITV.str W A₁ [] _ _ _ _ hA₁' st₃.toks (fun _ h => nomatch h) ⟨tc, rfl⟩ fun I J s₄ N₄ it j₀ hI => ?_
  have N₃₄ : Nx b [] s₃ s₄ := ((Nx.refl N₃.st).toks.toks.tr N₄)
  refine codeAny_forLoop (fun k s' => (k = 2 ∧ s₄ = s') ∨ (k = 1 ∧ J [] 1 s'.heap ∧ Nx b [L] s₃ s' ∧ ∃ tcc, s'.heap.Ns L (fun y => if y = Str.ofString "ch" then some (.str (Str.ofString " ") tcc) else List.lookup y [(Str.ofString "self", Value.ref v), (Str.ofString "fws", Value.str (Str.ofString " ") t1), (Str.ofString "string", Value.str p t2)].reverse))) ?_ 2 (.inl ⟨rfl, rfl⟩)
  rintro _ s' (⟨rfl, rfl⟩ | ⟨rfl, j₁, N₃ₖ, tcc, hnsk⟩)
  · refine it.item hA₁' (i := 0) (P := strV (Str.ofString " ")) rfl N₄.st j₀ fun cv s₅ N₅ j₁ pc => ?_
    obtain ⟨tcc, rfl⟩ := pc
    have N₃₅ : Nx b [] s₃ s₅ := N₃₄.trans N₅ (fun _ h => nomatch h) (fun c hc => .inr (by rw [List.mem_singleton.mp hc]; exact hI))
    have hns₅ := N₃₅.ns hns₃ hL2
    refine wpAny_assign_Name (set_loc N₅.st hns₅ hL2 fL fun s₆ N₆ hns₆ => gen_post fun Q4 E4 hQ4 => ?_)
    have N₃₆ : Nx b [L] s₃ s₆ := N₃₅.lt0 N₆
    have IL : I ≠ L := fun q => absurd sz₃ (Nat.not_lt.mpr (by rw [← q]; exact hI))
    have j₆ := it.frame j₁ N₆ (ni IL) (fun c hc => .inr (by rw [List.mem_singleton.mp hc]; exact ns_noseq hns₅))
    -- for i in range(self._current_line.part_count() - 1, 0, -1)
    refine wpAny_execs_cons (gen_post fun Q5 E5 hQ5 => wpAny_For (Call_ (nm_bi W N₆.st (show bootBuiltins "range" = some (.type "range") from rfl) (PyProof.Rows.callWith_type1 (spliced_more (wpAny_BinOp (MethodCall_ (Attribute_name (nm_loc (v := .ref v) hns₆ (vf_line W N₆.st (FK N₃₆) (meth0 (f := 175) W N₆.st.toks (AK N₃₆.toks) ?_)))))))))))
    refine acc_count W N₆.st.toks hA₁' (by omega) (AK N₃₆.toks) fun s₇ tk₇ N₇ => ?_
    have N₃₇ : Nx b [L] s₃ s₇ := N₃₆.toks.rt0 N₇
    have hns₇ := N₇.ns hns₆ hL2
    refine wpAny_Constant_int (PyProof.Rows.sub_int' (spliced_more (wpAny_Constant_int (spliced_more (wpAny_UnaryOp (wpAny_Constant_int (PyProof.Rows.neg_int (spliced_none ?_))))))))
    rw [show (([(Str.ofString " ", p)].length : Nat) : Int) - 1 = 0 by rfl]
    refine call_range_3 (by decide) ?_ (.inl (PyProof.noPylong_small (by omega)))
    have N₃₈ : Nx b [] s₇ _ := (Nx.refl N₇.st).toks (k := s₇.toks + 1 + 1 + 1 + 1 + 1)
    have N₃₉ := N₃₈.tr (Nx.push N₃₈.st (o := { cls := .type "range", data := .fields #[.int 0 (s₇.toks + 1), .int 0 (s₇.toks + 1 + 1), .int (-1) (s₇.toks + 1 + 1 + 1 + 1)] }))
    refine wpAny_pyIter_range (IsRange.new ..) (by decide) ?_
    rw [show Builtin.Range.rangeSize 0 0 (-1) = 0 by decide]
    have N₃₁₀ := N₃₉.tr (Nx.push N₃₉.st (o := { cls := .type "range_iterator", data := .fields #[rawInt 0, rawInt 0, rawInt (-1)] }))
    have hit : IsRangeIter (((s₇.heap.push { cls := .type "range", data := .fields #[.int 0 (s₇.toks + 1), .int 0 (s₇.toks + 1 + 1), .int (-1) (s₇.toks + 1 + 1 + 1 + 1)] })).push { cls := .type "range_iterator", data := .fields #[rawInt 0, rawInt 0, rawInt (-1)] }) _ 0 0 (-1) := Heap.get?_push_size _ rfl
    refine codeAny_forLoop (fun n s' => n = 1 ∧ (Shared.mk _ _ _ _ _) = s') ?_ 1 ⟨rfl, rfl⟩
    rintro _ s' ⟨rfl, rfl⟩
    refine wpAny_size (Nat.le_refl _) (wpAny_pyNext_range_end hA₁' hit (by decide) fun h₁₁ hs₁₁ hz => ?_)
    have gz : ∀ {k : Nat}, s₇.heap.objs.size ≤ k → 232 < k := fun h => Nat.lt_of_lt_of_le (N₇.st.lt W) h
    have hI2 : s₇.heap.objs.size ≤ (s₇.heap.push { cls := .type "range", data := .fields #[.int 0 (s₇.toks + 1), .int 0 (s₇.toks + 1 + 1), .int (-1) (s₇.toks + 1 + 1 + 1 + 1)] }).objs.size := by rw [Heap.size_push]; exact Nat.le_succ _
    have N₇₁₁ := N₃₁₀.trans (Nx.of1 (X := []) (tk := s₇.toks + 1 + 1 + 1 + 1 + 1) N₃₁₀.st (fun c o hc e => hs₁₁ c o (fun q => hc (List.mem_singleton.mpr q)) e) (gz hI2) (N₇.st.fresh hI2) hz (fun o e => by rw [hit] at e; cases e; rfl)) (fun _ h => nomatch h) (Z := []) (fun c hc => .inr (by rw [List.mem_singleton.mp hc]; exact hI2))
    refine wpAny_execs_cons (wpAny_Continue (hQ5 _ _ (hQ4 _ _ ?_)))
    show ∃ k, k < 2 ∧ _
    refine ⟨1, by decide, .inr ⟨rfl, it.frame (it.frame (s := { s₆ with toks := s₆.toks + 1 }) j₆ N₇ List.not_mem_nil (fun _ h => nomatch h)) N₇₁₁ List.not_mem_nil (fun _ h => nomatch h), N₃₇.rt0 N₇₁₁, tcc, N₇₁₁.ns hns₇ hL2⟩⟩
  · refine it.done hA₁' N₃ₖ.st j₁ fun s₅ N₅ => ?_
    have IL : I ≠ L := fun q => absurd sz₃ (Nat.not_lt.mpr (by rw [← q]; exact hI))
    have N₃₅ : Nx b [L] s₃ s₅ := N₃ₖ.trans N₅ (fun c hc => .inl hc) (fun c hc => .inr (by rw [List.mem_singleton.mp hc]; exact hI))
    have hns₅ := N₅.ns hnsk hL2 (ni IL.symm)
    -- fws, part = self._current_line.pop()
    refine wpAny_execs_cons (gen_post fun Q6 E6 hQ6 => wpAny_Assign_stores (MethodCall_ (Attribute_name (nm_loc (v := .ref v) hns₅ (vf_line W N₅.st (FK N₃₅) (meth0 (f := 138) W N₅.st.toks (AK N₃₅.toks) ?_))))) rfl rfl)
    refine acc_pop_snoc W N₅.st.toks hA₁' (by omega) (Ts := []) (ps := []) (AK N₃₅.toks) (Nat.zero_le _) fun s₆ N₆ a₆ => ?_
    have gT : 232 < T := Nat.lt_of_lt_of_le (N₁.st.lt W) hT
    have tx : T ∉ [x] := ni fun q => by
      have := a.ltx
      rw [← q] at this
      exact absurd (Nat.lt_of_lt_of_le this N₁.sz) (Nat.not_lt.mpr hT)
    have hTT : TupAt s₆.heap T (Str.ofString " ", p) := N₆.tup ((AK N₃₅.toks).tup 0 T _ rfl rfl) gT tx
    obtain ⟨t5, t6, hTup⟩ := hTT
    have lx : L ≠ x := Nat.ne_of_gt hxL
    have hns₆ := N₆.ns (s := { s₅ with toks := s₅.toks + 1 }) hns₅ hL2 (ni lx)
    have F₆ := N₆.vf (FK N₃₅.toks) (nx _ D.vx) (nx _ D.dvx) (nx _ D.lx)
    show wpAny _ _ (assign (.Tuple [.Name (Str.ofString "fws") ⟨63, 16, 63, 19⟩, .Name (Str.ofString "part") ⟨63, 21, 63, 25⟩] 0 ⟨63, 16, 63, 25⟩) _ (.ref T)) _ _ _
    rw [arm_assign_Tuple]
    refine wpAny_bind (wpAny_standAt (unpack_nx N₆.st hA₁' hTup rfl rfl fun s₇ N₇ => ?_))
    have hns₇ := N₇.ns hns₆ hL2
    refine wpAny_bind (wpAny_holding (wpAny_assign_Name (set_loc N₇.st hns₇ hL2 fL fun s₈ N₈ hns₈ => ?_)))
    refine wpAny_bind (wpAny_holding (wpAny_assign_Name (set_loc N₈.st hns₈ hL2 fL fun s₉ N₉ hns₉ => ?_)))
    refine wpAny_pure (hQ6 _ _ ?_)
    show wpAny _ _ _ _ _ _
    have TL' : ∀ T' ∈ ([] : List Addr), T' ∉ [L] := fun _ h => nomatch h
    have a₉ := ((a₆.nx0 N₇).nx N₈ (ni (Nat.ne_of_lt hxL)) (ni dxL) TL').nx N₉ (ni (Nat.ne_of_lt hxL)) (ni dxL) TL'
    have F₉ := N₉.vf (N₈.vf (N₇.vf F₆) (ni vL) (ni dvL) (ni lnL)) (ni vL) (ni dvL) (ni lnL)
    have M₃ : Nx b [x] s s₃ := N₀₂.toks.rt0 N₃
    have hLe : ∀ c ∈ [L], c ∈ [x] ∨ s.heap.objs.size ≤ c := fun c hc => .inr (by rw [List.mem_singleton.mp hc]; exact Nat.le_of_eq hL.symm)
    have M₆ : Nx b [x] s s₆ := (M₃.trans (N₃₅.toks (k := s₅.toks + 1)) (fun c hc => .inl hc) hLe).tr N₆
    have M₉ : Nx b [x] s s₉ := (((M₆.rt0 N₇).trans N₈ (fun c hc => .inl hc) hLe).trans N₉ (fun c hc => .inl hc) hLe)
    -- if self._current_line._initial_size > 0: self.newline()
    refine wpAny_execs_cons (gen_post fun Q7 E7 hQ7 => wpAny_If (wpAny_isTrue_Compare1 (Attribute_any_ (Attribute_name (nm_loc (v := .ref v) hns₉ (vf_line W N₉.st F₉ (acc_getsize W N₉.st.toks a₉ fun t => wpAny_Constant_int (PyProof.Rows.gt_int (wpAny_truthy_bool ?_)))))))))
    refine (Int.lt_or_le 0 n).elim (fun hn => ?ca) (fun hn => ?cb)
    case' ca =>
      rw [if_pos (by simpa using hn)]
      refine wpAny_execs_cons (gen_post fun Q8 E8 hQ8 => wpAny_Expr_any (MethodCall_ (nm_loc (s := { s₉ with toks := s₉.toks + 1 + 1 + 1 }) (v := .ref v) hns₉ (vf_meth (f := 56) W N₉.st.toks F₉ (callWith_K0 (N₉.st.k W) (by kernel_rfl) ?_)))))
      refine newline_empty W N₉.st.toks hA₁' (by omega) (by rw [hU₁]; omega) F₉ a₉ D hn sm.2.1 hrows fun s₁₀ N₁₀ F₁₀ a₁₀ => ?_
      have M₁₀ : Nx b [x, dx, ln] s s₁₀ := (M₉.toks (k := s₉.toks + 1 + 1 + 1)).trans N₁₀ (fun c hc => .inl (by simp at hc; simp [hc])) (fun c hc => .inl hc)
      have Ld : L ∉ [x, dx, ln] := fun q => by
        simp at q
        rcases q with q | q | q
        · exact lx q
        · exact dxL q.symm
        · exact lnL q.symm
      have hns₁₀ := N₁₀.ns (s := { s₉ with toks := s₉.toks + 1 + 1 + 1 }) hns₉ hL2 Ld
      refine hQ8 _ _ ?_
      show wpAny _ _ _ _ _ _
      refine wpAny_execs_cons (wpAny_If (PyProof.Rows.isTrue_not (PyProof.Rows.isTrue_plain (nm_loc (v := .str (Str.ofString " ") t5) hns₁₀ (PySem.P.truthy_str (by decide) ?_)) rfl)))
      rw [if_neg (by decide)]
      refine wpAny_execs_nil ?_
      show wpAny _ _ _ _ _ _
      refine wpAny_execs_nil (hQ7 _ _ ?_)
      show wpAny _ _ _ _ _ _
      have M' := M₁₀.toks (k := s₁₀.toks + 1 + 1)
      have er : rows ++ [ptext [(Str.ofString "", Str.ofString "")]] = (if 0 < n then rows ++ [ptext [(Str.ofString "", Str.ofString "")]] else rows) := by rw [if_pos hn]
      rw [er] at F₁₀
    case' cb =>
      rw [if_neg (by simpa using hn)]
      refine wpAny_execs_nil (hQ7 _ _ ?_)
      show wpAny _ _ _ _ _ _
      have M' : Nx b [x, dx, ln] s _ := (M₉.toks (k := s₉.toks + 1 + 1 + 1)).mono (fun c hc => .inl (by simp at hc; simp [hc]))
      have F₁₀ := F₉
      have er : rows = (if 0 < n then rows ++ [ptext [(Str.ofString "", Str.ofString "")]] else rows) := by rw [if_neg (Int.not_lt.mpr hn)]
      rw [er] at F₁₀
      have hns₁₀ := hns₉
      have a₁₀ := a₉
      have e0 : n = 0 := Int.le_antisymm hn sm.1
      rw [e0] at a₁₀
    all_goals
      refine wpAny_execs_cons (gen_post fun Q9 E9 hQ9 => wpAny_Expr_any (MethodCall_ (Attribute_name (nm_loc (s := _) (v := .ref v) hns₁₀ (vf_line W M'.st F₁₀ (meth1 (f := 122) W M'.st.toks a₁₀ ?_))))))
      refine spliced_more (nm_loc (s := _) (v := .str (Str.ofString " ") t5) hns₁₀ (spliced_more (nm_loc (s := _) (v := .str p t6) hns₁₀ (spliced_none ⟨M'.st.toks, ?_⟩))))
      refine acc_push W M'.st.toks hA₁' (by omega) a₁₀ (Nat.zero_le _) fun s₁₁ T₂ N₁₁ a₁₁ hT₂ => ?_
      refine hQ9 _ _ (wpAny_execs_cons (wpAny_Return_none (hQ3 _ _ (hQ2 _ _ ?_))))
      have lnlt : ln < s.heap.objs.size := by obtain ⟨its, ⟨ol, nl, el, _⟩, _⟩ := F.ls; exact Heap.lt_size el
      have T2ln : T₂ ≠ ln := fun q => absurd (Nat.lt_of_lt_of_le lnlt M'.sz) (Nat.not_lt.mpr (by rw [← q]; exact hT₂))
      refine h s₁₁ T₂ (M'.toks.trans N₁₁ (fun c hc => .inl hc) (fun c hc => .inl (by simp at hc; simp [hc]))) (N₁₁.vf F₁₀ (nx _ D.vx) (nx _ D.dvx) (nx _ D.lx)) a₁₁ T2ln
end
end Mine
end -- C20
section -- C21
/-! C21: list.__new__(_Accumulator, n) -/
set_option maxRecDepth 100000
namespace Mine
open PySem PySem.W PySem.W.X PySem.Calls PyProof.Rows
set_option maxHeartbeats 0
/-- what list.__new__ makes -/
noncomputable abbrev PN (h0 : Heap) (gens : Array GenState) (d : Drawn) (os : OsState) (v : Value) (s' : Shared) : Prop :=
  ∃ a dx ob od, v = .ref a ∧ (∀ a o, h0.get? a = some o → s'.heap.get? a = some o) ∧ s'.heap.get? a = some ob ∧ (ob.cls = .ref 178 ∧ ob.dict = some dx ∧ ob.data = .seq #[] 0 ∧ ob.slots = #[]) ∧ s'.heap.get? dx = some od ∧ od = emptyDict ∧ h0.get? a = none ∧ h0.get? dx = none ∧ s'.gens = gens ∧ s'.drawn = d ∧ s'.os = os
theorem closeN {h0 h : Heap} {gens : Array GenState} {d : Drawn} {t : Nat} {os : OsState} {a dx : Addr} {ob od : Obj} {r : List (Addr × Obj)} (D : Mem h0 h [] ((a, ob) :: (dx, od) :: r))
   (e : (ob.cls = .ref 178 ∧ ob.dict = some dx ∧ ob.data = .seq #[] 0 ∧ ob.slots = #[]) ∧ od = emptyDict) : PN h0 gens d os (.ref a) ⟨h, gens, d, t, os⟩ :=
  ⟨a, dx, ob, od, rfl, mem_keep D, (D.nw _ (.head _)).1, e.1, (D.nw _ (.tail _ (.head _))).1, e.2, (D.nw _ (.head _)).2, (D.nw _ (.tail _ (.head _))).2, rfl, rfl, rfl⟩
local macro_rules | `(tactic| x_close) => `(tactic| (have D := ‹Mem _ _ [] _›; exact closeN D ⟨⟨rfl, rfl, rfl, rfl⟩, rfl⟩))
theorem newA1 {P : Program} {w : World} {h0 : Heap} {gens : Array GenState} {d : Drawn} {t : Nat} {os : OsState} (X : Frag.In (hdk.heap_1 w.params) h0) {n : Int} {tn : Tok} (E : Value → Shared → Prop) :
    wpAny (model P w) A0 (PySem.call (.builtin "list.__new__") [.ref 178, .int n tn]) (PN h0 gens d os) E ⟨h0, gens, d, t, os⟩ := by
  x_run
end Mine
end -- C21
section -- C22
/-! C22: the dead stay dead, so what is new lies above -/
set_option maxRecDepth 100000
namespace Mine
open PySem PySem.W PySem.Calls PyProof.Rows Builtin
set_option maxHeartbeats 1000000

noncomputable def Dead (c : Addr) (h : Heap) : Prop := c < h.objs.size ∧ h.get? c = none
theorem Dead.upd {c a : Addr} {h : Heap} {f : Obj → Obj} (d : Dead c h) (ha : (h.get? a).isSome) : Dead c (h.update a f) := by
  have ne : c ≠ a := fun q => by rw [← q, d.2] at ha; cases ha
  exact ⟨by simpa using d.1, (Heap.get?_update_ne _ _ _ _ ne).trans d.2⟩
theorem Dead.push {c : Addr} {h : Heap} {o : Obj} (d : Dead c h) : Dead c (h.push o) :=
  ⟨by rw [Heap.size_push]; exact Nat.lt_succ_of_lt d.1, (Heap.get?_push_ne _ _ _ (Nat.ne_of_lt d.1)).trans d.2⟩
theorem runs_dead {M : Model} {Γ : Ctx} {p : Pos} {t : Sem PySem.Fin} {fs : List Frame} {s s' : Shared} {e : End} (c : Addr) (h : Runs M Γ p t fs s e s') : Dead c s.heap → Dead c s'.heap := by
  induction h with
  | update hs _ ih => exact fun d => ih (d.upd hs)
  | alloc _ ih => exact fun d => ih d.push
  | call _ _ ih1 ih2 => exact fun d => ih2 (ih1 d)
  | resumeFresh _ _ _ _ ih1 ih2 => exact fun d => ih2 (ih1 d)
  | resumeSuspended _ _ _ _ ih1 ih2 => exact fun d => ih2 (ih1 d)
  | segRet _ _ ih1 ih2 => exact fun d => ih2 (ih1 d)
  | segGen _ _ ih1 ih2 => exact fun d => ih2 (ih1 d)
  | segSuspGen _ _ _ _ ih1 ih2 => exact fun d => ih2 (ih1 d)
  | done => exact fun d => d
  | raise => exact fun d => d
  | yield => exact fun d => d
  | again _ _ ih => exact ih
  | rule _ ih => exact ih
  | «at» _ ih => exact ih
  | load _ _ ih => exact ih
  | loadIfAlive _ ih => exact ih
  | point _ ih => exact ih
  | fresh _ ih => exact ih
  | ask _ ih => exact ih
  | choose _ _ ih => exact ih
  | os _ ih => exact ih
  | handled _ ih => exact ih
  | genState _ _ ih => exact ih
  | stack _ ih => exact ih
  | thread _ ih => exact ih
  | newGen _ ih => exact ih
  | callSusp _ ih => exact ih
  | resumeJustStarted _ _ _ ih => exact ih
  | resumeThrowFresh _ _ ih => exact ih
  | resumeRunning _ _ ih => exact ih
  | resumeFinished _ _ ih => exact ih
  | segSuspOut _ _ ih => exact ih
theorem wakes_dead {M : Model} {Γ : Ctx} {p : Pos} {g : Nat} {r : Resume} {s s' : Shared} {res : GenResult} (c : Addr) (h : Wakes M Γ p g r s res s') : Dead c s.heap → Dead c s'.heap := by
  unfold Wakes at h
  split at h
  · exact h.elim
  · split at h
    · obtain ⟨e₁, s₁, hr, _, _, rfl⟩ := h; exact (runs_dead c hr : Dead c (s.setGen g .running).heap → Dead c s₁.heap)
    · rw [h.2]; exact fun d => d
    · rw [h.2]; exact fun d => d
  · obtain ⟨e₁, s₁, hr, _, _, rfl⟩ := h; exact (runs_dead c hr : Dead c (s.setGen g .running).heap → Dead c s₁.heap)
  · rw [h.2]; exact fun d => d
  · rw [h.2]; exact fun d => d
noncomputable def DeadAll (D : Addr → Prop) (h : Heap) : Prop := ∀ c, D c → Dead c h
theorem wp_dead {α : Type} (M : Model) (Γ : Ctx) (D : Addr → Prop) (t : Sem α) : ∀ (Q : α → Pos → Shared → Prop) (E : Value → Pos → Shared → Prop) (p : Pos) (s : Shared), DeadAll D s.heap → Sem.wp M Γ t Q E p s →
    Sem.wp M Γ t (fun a p' s' => DeadAll D s'.heap ∧ Q a p' s') (fun e p' s' => DeadAll D s'.heap ∧ E e p' s') p s := by
  induction t with
  | pure a => intro Q E p s hn h; exact ⟨hn, h⟩
  | raise e => intro Q E p s hn h; exact ⟨hn, h⟩
  | unsupported _ => intro Q E p s _ h; exact h
  | finish _ => intro Q E p s _ h; exact h
  | rule _ k ih => intro Q E p s hn h; exact ih () Q E p s hn h
  | «at» p' k ih => intro Q E p s hn h; exact ih () Q E p' s hn h
  | load a _ k ih => intro Q E p s hn h; obtain ⟨o, ho, h⟩ := h; exact ⟨o, ho, ih o Q E p s hn h⟩
  | update a _ f k ih => intro Q E p s hn h; exact ⟨h.1, ih () Q E p _ (fun c hc => (hn c hc).upd h.1) h.2⟩
  | loadIfAlive a k ih => intro Q E p s hn h; exact ih _ Q E p s hn h
  | point _ k ih => intro Q E p s hn h; exact ih () Q E p s hn h
  | register _ _ => intro Q E p s _ h; exact h
  | alloc o k ih => intro Q E p s hn h; exact ih _ Q E p _ (fun c hc => (hn c hc).push) h
  | fresh k ih => intro Q E p s hn h; exact ih _ Q E p _ hn h
  | ask k ih => intro Q E p s hn h; exact ih _ Q E p s hn h
  | choose src m k ih => intro Q E p s hn h; exact ⟨h.1, ih _ Q E p _ hn h.2⟩
  | os q _ k ih => intro Q E p s hn h; exact ih _ Q E p _ hn h
  | call c hd _ _ k ih => intro Q E p s hn h; obtain ⟨r, s', hr, h⟩ := h; exact ⟨r, s', hr, ih r Q E p s' (fun c hc => runs_dead c hr (hn c hc)) h⟩
  | handled own k ih => intro Q E p s hn h; exact ih _ Q E p s hn h
  | genState g k ih => intro Q E p s hn h; obtain ⟨st, hs, h⟩ := h; exact ⟨st, hs, ih _ Q E p s hn h⟩
  | newGen c k ih => intro Q E p s hn h; exact ih _ Q E p _ hn h
  | resume g r _ k ih => intro Q E p s hn h; obtain ⟨res, s', hw, h⟩ := h; exact ⟨res, s', hw, ih res Q E p s' (fun c hc => wakes_dead c hw (hn c hc)) h⟩
  | yield _ _ _ _ => intro Q E p s _ h; exact h
  | stack k ih => intro Q E p s hn h; exact ih _ Q E p s hn h
  | fork _ _ => intro Q E p s _ h; exact h
  | thread k ih => intro Q E p s hn h; exact ih _ Q E p s hn h
  | await _ _ _ _ _ => intro Q E p s _ h; exact h
/-- what was not there before lies above -/
theorem wpAny_above {α : Type} {M : Model} {A : Around} {s : Shared} {t : Sem α} {Q : α → Shared → Prop} {E : Value → Shared → Prop}
    (h : wpAny M A t (fun a s' => (∀ c o, s.heap.get? c = none → s'.heap.get? c = some o → s.heap.objs.size ≤ c) → Q a s') E s) : wpAny M A t Q E s := by
  let D : Addr → Prop := fun c => Dead c s.heap
  refine wpAny_mono (Q := fun a s' => DeadAll D s'.heap ∧ ((∀ c o, s.heap.get? c = none → s'.heap.get? c = some o → s.heap.objs.size ≤ c) → Q a s')) (E := fun e s' => DeadAll D s'.heap ∧ E e s')
    (fun Γ p hΓ => wp_dead M Γ D t _ _ p s (fun c hc => hc) (h Γ p hΓ)) (fun _ s' x => x.2 fun c o hn ho => ?_) (fun _ _ x => x.2)
  refine Nat.le_of_not_lt fun q => ?_
  have := (x.1 c ⟨q, hn⟩).2
  rw [this] at ho
  cases ho
end Mine
end -- C22
section -- C23
/-! C23: _Accumulator(n) -/
set_option maxRecDepth 100000
namespace Mine
open PySem PySem.W PySem.Calls PyProof.Rows Builtin Builtin.ObjectAttr
set_option maxHeartbeats 1000000
section
variable {w : World} {A : Around} {E : Value → Shared → Prop} {s : Shared} {b : Heap} {mg mb : Str → Option Value} {bm : Addr} {ob : Obj} {env : Env}

theorem acc_setnew {x dx : Addr} {n : Int} {t0 : Tok} {Q : Unit → Shared → Prop} (W : WW w b mg mb bm ob) (st : St b s) (hx : s.heap.get? x = some ⟨.ref 178, some dx, .seq #[] 0, #[]⟩) (hd : s.heap.get? dx = some emptyDict)
    (gx : 232 < x) (gd : 232 < dx) (fx : b.get? x = none) (fd : b.get? dx = none)
    (h : ∀ s', Nx b [dx] s s' → Acc w b s'.heap x dx n [] [] → Q () s') : wpAny (model PW w) A (setAttr (.ref x) (Str.ofString "_initial_size") (.int n t0)) Q E s := by
  have I : InstAt s.heap x ⟨.ref 178, some dx, .seq #[] 0, #[]⟩ 178 (some (dictOf [] 0)) := ⟨hx, rfl, rfl, hd⟩
  refine set_plain (K := KK w) (st.k W) I (by kernel_rfl) ?_
  refine acc_osa (s := { s with toks := s.toks + 1 }) (es := []) (k' := 0) (es' := fun tk => #[⟨PyData.keyHash w.params (Str.ofString "_initial_size"), .str (Str.ofString "_initial_size") tk, .int n t0⟩]) (k'' := 1) W st.toks hx hd rfl (fun tk => by rfl) (fun _ => by simp) fun tk => ?_
  have N : Nx b [dx] _ _ := Nx.upd (s := s) (f := Obj.putName (Str.ofString "_initial_size") (PyData.keyHash w.params (Str.ofString "_initial_size")) (.str (Str.ofString "_initial_size") tk) (.int n t0)) st gd fd (NC.dict hd rfl)
  have hne : x ≠ dx := fun q => by rw [q, hd] at hx; cases hx
  refine h _ N.toks ⟨⟨0, (Heap.get?_update_ne _ _ _ _ hne).trans hx⟩, ⟨t0, tk, 1, ?_⟩, rfl, fun j T p e => by simp at e, gx, gd, (fun T hT => nomatch hT), fx, fd⟩
  exact Heap.get?_update_self _ hd rfl

theorem list_init_body {C : Value} {dd : Option Addr} {sl : Array (Option Value)} {l : Addr} {n : Nat} {M : Model} {Q : Fin → Shared → Prop} (hl : s.heap.get? l = some ⟨C, dd, .seq #[] n, sl⟩)
    (h : Q (.done (.ret .none)) { s with heap := s.heap.update l (Obj.mapSeq fun _ => #[]) }) : wpAny M A (Builtin.«list.__init__» ⟨[.ref l], []⟩) Q E s := by
  unfold Builtin.«list.__init__»
  refine wpAny_ifF rfl ?_
  refine wpAny_ifN (by decide) ?_
  refine wpAny_bind (listItems_at hl rfl ?_)
  refine wpAny_bind (listUpdate_at hl rfl ?_ (Nat.zero_le _) (Nat.zero_le _))
  refine wpAny_bind (wpAny_letGo ?_)
  exact wpAny_pure h
theorem check_linit {x : Addr} {ox : Obj} {odx : Option Obj} {Q' : Unit → Shared → Prop} : checkBoundCall "list.__init__" ⟨[.ref x], []⟩ = pure () := by kernel_rfl

theorem acc_init {x dx : Addr} {n : Int} {tn : Tok} {Q : Value → Shared → Prop} (W : WW w b mg mb bm ob) (st : St b s) (hA : A.handled = none) (hD : A.depth < 890) (hx : s.heap.get? x = some ⟨.ref 178, some dx, .seq #[] 0, #[]⟩) (hd : s.heap.get? dx = some emptyDict)
    (gx : 232 < x) (gd : 232 < dx) (fx : b.get? x = none) (fd : b.get? dx = none)
    (h : ∀ s', Nx b [x, dx] s s' → Acc w b s'.heap x dx n [] [] → Q .none s') : wpAny (model PW w) A (call (.ref 115) [.ref x, .int n tn]) Q E s := by
  refine enterAt (f := 115) (binds := [(Str.ofString "self", .ref x), (Str.ofString "initial_size", .int n tn)]) W st (Nat.lt_trans hD (by decide)) rfl rfl (by kernel_rfl) (binds_K (st.k W) rfl rfl rfl rfl rfl) (by decide) (locs rfl) (fun A₁ s₁ E' L hA₁ hD₁ _ hL N₁ hLs hns => ?_)
  have hL2 : 232 < L := by rw [hL]; exact st.lt W
  have ki : ∀ {c o}, 232 < c → s.heap.get? c = some o → s₁.heap.get? c = some o := fun g e => N₁.kp _ _ (notab_of g) List.not_mem_nil e
  refine ks_wpAt_execs_cons (wpAt_of_wpAny (plainObj_wpAny_Assign_Attribute ?_))
  refine nm_loc (v := .int n tn) hns (nm_loc (v := .ref x) hns ?_)
  refine acc_setnew W N₁.st (ki gx hx) (ki gd hd) gx gd fx fd fun s₂ N₂ a₂ => ?_
  show PySem.wpAt _ _ _ _ _ _ _
  have dxL : L ≠ dx := fun q => by have := Heap.lt_size hd; rw [← q, hL] at this; exact Nat.lt_irrefl _ this
  have hns₂ := N₂.ns hns hL2 (ni dxL)
  obtain ⟨k, t, t', k', I⟩ := a₂.inst
  refine ks_wpAt_execs_cons (ks_wpAt_Expr_any ?_)
  refine ks_wpAt_MethodCall (super_base (x := x) (f := 115) W N₂.st hns₂ I rfl rfl rfl rfl rfl rfl rfl (fun s₃ N₃ hso => ?_))
  have a₃ := a₂.nx0 N₃
  obtain ⟨k, t, t', k', I⟩ := a₃.inst
  refine super_meth (id := "list.__init__") (kind := "method-wrapper") (td := "wrapper_descriptor") W N₃.st I hso (by kernel_rfl) (by decide +kernel) (fun _ => by show builtinType _ = _; rw [builtinType_eq_fast]; kernel_rfl) slot_wd_get entry_wd_get (args_wd_get _ _ _) (wd_get_eq _ _ _) (not178 a₂) (by decide) ?_
  have N₄ := (N₃.st |> Nx.push (o := boundObj "method-wrapper" "list.__init__" x)).toks (k := s₃.toks + 1)
  have hq : (s₃.heap.push (boundObj "method-wrapper" "list.__init__" x)).get? s₃.heap.objs.size = some (boundObj "method-wrapper" "list.__init__" x) := Heap.get?_push_at rfl rfl
  have a₄ := a₃.nx0 N₄
  obtain ⟨k, ho⟩ := a₄.at_
  refine callWith_bound0 hq (.inl rfl) (call_bound hq (.inl rfl) (by decide +kernel) PySem.F.entry_list_init (fun A' Q' E' q => wpAny_of_eq (check_linit (ox := ⟨.none, none, .plain, #[]⟩) (odx := none) (Q' := Q')) q) ?_)
  refine list_init_body ho ⟨_, rfl, ?_⟩
  have N₅ : Nx b [x] _ _ := Nx.upd (f := Obj.mapSeq fun _ => #[]) N₄.st gx fx a₄.nc
  have a₅ := a₄.seq (f := fun _ => #[]) (Ts' := []) (ps' := []) rfl rfl (fun j T p e => by simp at e) (fun T hT => nomatch hT)
  refine wpAt_of_wpAny (wpAny_execs_nil (h _ ?_ a₅))
  have M₄ : Nx b [dx] s _ := ((N₁.lt0 N₂).rt0 N₃).rt0 N₄
  exact M₄.trans N₅ (fun c hc => .inl (by simp at hc; simp [hc])) (fun c hc => .inl (by simp at hc; simp [hc]))
end
end Mine
end -- C23
section -- C24
/-! C24: _Accumulator(n), the whole -/
set_option maxRecDepth 100000
namespace Mine
open PySem PySem.W PySem.Calls PyProof.Rows Builtin Builtin.ObjectAttr
set_option maxHeartbeats 1000000
section
variable {w : World} {A : Around} {E : Value → Shared → Prop} {s : Shared} {b : Heap} {mg mb : Str → Option Value} {bm : Addr} {ob : Obj} {env : Env}

theorem new_list {n : Int} {tn : Tok} {Q : Value → Shared → Prop} (W : WW w b mg mb bm ob) (st : St b s) (hA : A.handled = none) (hD : A.depth ≤ 900) (hU : A.units ≤ 500)
    (h : ∀ s' x dx, Nx b [] s s' → s'.heap.get? x = some ⟨.ref 178, some dx, .seq #[] 0, #[]⟩ → s'.heap.get? dx = some emptyDict → s.heap.objs.size ≤ x → s.heap.objs.size ≤ dx → (∀ c o, s.heap.get? c = some o → s'.heap.get? c = some o) → Q (.ref x) s') :
    wpAny (model PW w) A (call (.builtin "list.__new__") [.ref 178, .int n tn]) Q E s := by
  refine wpAny_above (wpAny_size (Nat.le_refl _) (wpAny_low (B := A0) ?_ hA hD hU rfl rfl))
  obtain ⟨hh, g, d, t, os⟩ := s
  refine wpAny_mono (newA1 (E := E) (st.k W)) (fun v s' hv hsz hab => ?_) fun _ _ e => e
  obtain ⟨a, dx, ⟨oc, od, dt, osl⟩, od', rfl, hk, e1, ⟨q1, q2, q3, q4⟩, e2, rfl, n1, n2, k1, k2, k3⟩ := hv
  cases q1; cases q2; cases q3; cases q4
  exact h s' a dx (Nx.all st hk k1 k2 k3 hsz) e1 e2 (hab _ _ n1 e1) (hab _ _ n2 e2) hk

theorem acc_new {n : Int} {tn : Tok} {Q : Value → Shared → Prop} (W : WW w b mg mb bm ob) (st : St b s) (hA : A.handled = none) (hD : A.depth < 800) (hU : A.units ≤ 400)
    (h : ∀ s' x dx, Nx b [] s s' → Acc w b s'.heap x dx n [] [] → s.heap.objs.size ≤ x → s.heap.objs.size ≤ dx → Q (.ref x) s') : wpAny (model PW w) A (call (.ref 178) [.int n tn]) Q E s := by
  have X := st.k W
  obtain ⟨oc, od, cd, sl, ho, hmro, hne, hsl⟩ : ∃ oc od cd sl, (KK w).lookup 178 = some ⟨oc, od, .cls cd, sl⟩ ∧ cd.mro = [.ref 178, .type "list", .type "object"] ∧ cd.mro.isEmpty = false ∧ (sl.toList[4]?).join = some (.builtin "list.__new__") := ⟨_, _, _, _, rfl, rfl, rfl, rfl⟩
  have hC := X _ _ ho
  have hc : clsIn (KK w) 178 = some cd := by unfold clsIn; rw [ho]
  have hm : Looks (model PW w) s.heap (mroOf (.ref 178)) cd.mro := (looks_clsIn X hc).andThen .now
  have made : Looks (model PW w) s.heap (Bind.madeBy (.ref 178)) (some "list.__new__") := by
    intro A Q E s' k q
    unfold Bind.madeBy
    refine wpAny_bind (hm A _ E s' k ?_)
    rw [hmro, List.forIn_cons]
    refine wpAny_bind (wpAny_bind (wpAny_bind (wpAny_bind (wpAny_loadPart (k _ _ hC) (wpAny_pure ?_)))))
    dsimp only
    rw [← Array.getElem?_toList, hsl]
    exact wpAny_pure (wpAny_pure (wpAny_pure q))
  have hcall : Looks (model PW w) s.heap (specialOf (.ref 178) "__call__") (some (.builtin "type.__call__")) := looks_specialIn X (by kernel_rfl)
  have typ : Looks (model PW w) s.heap (isInstance (.ref 178) (.type "type")) true := looks_instIn X (by kernel_rfl)
  obtain ⟨hh, g, d, t, os⟩ := s
  refine wpAny_call (codeAny_of_tree ?_)
  show wpAny _ _ (callAny (.ref 178) _) _ _ _
  refine nd_load hC ?_
  show wpAny _ _ (callAny.viaDunder (.ref 178) _) _ _ _
  unfold callAny.viaDunder
  refine wpAny_bind (hcall.at ?_)
  dsimp only
  rw [tc_bind]
  refine wpAny_bind (wpAny_pure (wpAny_bind (wpAny_pure ?_)))
  refine wpAny_pure (a := Fin.again (.call (.builtin "type.__call__") ⟨[.ref 178, .int n tn], []⟩)) (And.intro rfl ?_)
  refine codeAny_call_builtin_at (Code.quiet_builtin _ (by decide +kernel)) entry_typeCall (check_slot tc_kind tc_split typ (tc_args _ _ _) ?_)
  unfold Builtin.«type.__call__»
  have hA2 : (A.under (.builtin "type.__call__" ⟨[.ref 178, .int n tn], []⟩)).handled = none := hA
  have hwt : Code.weight (.builtin "type.__call__" ⟨[.ref 178, .int n tn], []⟩) = 1 := by kernel_rfl
  have hD2 : (A.under (.builtin "type.__call__" ⟨[.ref 178, .int n tn], []⟩)).depth < 890 := by
    show A.depth + Code.weight _ < 890
    rw [hwt]; omega
  have hU2 : (A.under (.builtin "type.__call__" ⟨[.ref 178, .int n tn], []⟩)).units ≤ 500 := by show A.units + 1 ≤ 500; omega
  have hD2' := Nat.le_of_lt (Nat.lt_trans hD2 (show 890 < 900 by decide))
  repeat (first | simp only [hne, Bool.false_eq_true, if_false] | (with_reducible refine new_list W st hA2 hD2' hU2 ?_) | lk)
  intro s' x dx N hx hd fx fdx hk
  have gx : 232 < x := Nat.lt_of_lt_of_le (st.lt W) fx
  have gd : 232 < dx := Nat.lt_of_lt_of_le (st.lt W) fdx
  have I : InstAt s'.heap x ⟨.ref 178, some dx, .seq #[] 0, #[]⟩ 178 (some (dictOf [] 0)) := ⟨hx, rfl, rfl, hd⟩
  have sub : Looks (model PW w) s'.heap (isInstance (.ref x) (.ref 178)) true := I.type.andThen (looks_mroIn (N.st.k W) (by kernel_rfl))
  refine wpAny_bind (sub.here (wpAny_ifF rfl (wpAny_bind (wpAny_holding ?_))))
  refine special_f (f := 115) W N.st I (by kernel_rfl) (by kernel_rfl) ?_
  refine acc_init W N.st hA2 hD2 hx hd gx gd (st.fresh fx) (st.fresh fdx) fun s₂ N₂ a₂ => ?_
  refine wpAny_ifF rfl (wpAny_pure ?_)
  exact h s₂ x dx (N.trans N₂ (fun _ h => nomatch h) (fun c hc => .inr (by simp at hc; rcases hc with rfl | rfl <;> assumption))) a₂ fx fdx
end
end Mine
end -- C24
section -- C25
/-! C25: _ValueFormatter(room, width, '\t', ' ') -/
set_option maxRecDepth 100000
namespace Mine
open PySem PySem.W PySem.Calls PyProof.Rows Builtin Builtin.ObjectAttr
set_option maxHeartbeats 1000000
section
variable {w : World} {A : Around} {E : Value → Shared → Prop} {s : Shared} {b : Heap} {mg mb : Str → Option Value} {bm : Addr} {ob : Obj} {env : Env}

/-- a new attribute of a formatter -/
theorem vf_set {v dv : Addr} {name : String} {val : Value} {es : List DictEntry} {k : Nat} {Q : Unit → Shared → Prop} (W : WW w b mg mb bm ob) (st : St b s) (hx : s.heap.get? v = some ⟨.ref 94, some dv, .plain, #[]⟩) (hd : s.heap.get? dv = some (dictOf es k))
    (gd : 232 < dv) (fd : b.get? dv = none) (hr : aRefKeyMayBeTheName (Str.ofString name) es.toArray = false)
    (ho' : ∀ tk, Obj.putName (Str.ofString name) (PyData.keyHash w.params (Str.ofString name)) (.str (Str.ofString name) tk) val (dictOf es k) = dictOf (es ++ [vfEntry w name tk val]) (k + 1)) (hsz : es.length ≤ 9)
    (h : ∀ tk s', Nx b [dv] s s' → s'.heap.get? v = some ⟨.ref 94, some dv, .plain, #[]⟩ → s'.heap.get? dv = some (dictOf (es ++ [vfEntry w name tk val]) (k + 1)) → (∀ c o, c ≠ dv → s.heap.get? c = some o → s'.heap.get? c = some o) → Q () s')
    (ht : takerIn (KK w) 94 (Str.ofString name) = some none := by kernel_rfl) : wpAny (model PW w) A (setAttr (.ref v) (Str.ofString name) val) Q E s := by
  have I : InstAt s.heap v ⟨.ref 94, some dv, .plain, #[]⟩ 94 (some (dictOf es k)) := ⟨hx, rfl, rfl, hd⟩
  have X := st.k W
  refine set_plain (K := KK w) X I (by kernel_rfl) ?_
  refine osa_open (K := KK w) (s := { s with toks := s.toks + 1 }) X I (by kernel_rfl) ht fun bb => ?_
  obtain ⟨cd, hc, hdct⟩ : ∃ cd, clsIn (KK w) 94 = some cd ∧ cd.hasDict = true := ⟨_, rfl, rfl⟩
  refine wpAny_bind (wpAny_pure (wpAny_bind (wpAny_bind (wpAny_loadPart (s := { s with toks := s.toks + 1 }) hx (wpAny_bind (Looks.here (s := { s with toks := s.toks + 1 }) (looks_clsIn X hc) ?_))))))
  rw [hdct]
  refine wpAny_pure (a := some dv) (wpAny_bind (wpAny_pure (wpAny_bind ?_)))
  unfold nsSet
  refine wpAny_bind (wpAny_bind (wpAny_askSetting (wpAny_pure (wpAny_bind (wpAny_mkText (wpAny_bind (wpAny_loadPart hd ?_)))))))
  show wpAny _ _ (if aRefKeyMayBeTheName (Str.ofString name) es.toArray = true then _ else _) _ _ _
  rw [if_neg (by rw [hr]; exact Bool.false_ne_true)]
  refine wpAny_updatePart hd ?_
  have e0 := ho' (s.toks + 1)
  have e1 : (s.heap.update dv (Obj.putName (Str.ofString name) (PyData.keyHash w.params (Str.ofString name)) (.str (Str.ofString name) (s.toks + 1)) val)).get? dv = some (dictOf (es ++ [vfEntry w name (s.toks + 1) val]) (k + 1)) := by
    rw [← e0]; exact Heap.get?_update_self _ hd (by rw [e0]; rfl)
  have z := sizeLine_eq
  refine wpAny_bind (wpAny_lookBehind e1 (pastItsLine_dict (by simp; omega)) ?_)
  have hne : v ≠ dv := fun q => by rw [q, hd] at hx; cases hx
  have N : Nx b [dv] _ _ := Nx.upd (s := s) (f := Obj.putName (Str.ofString name) (PyData.keyHash w.params (Str.ofString name)) (.str (Str.ofString name) (s.toks + 1)) val) st gd fd (NC.dict hd rfl)
  exact wpAny_pure (h (s.toks + 1) _ N.toks ((Heap.get?_update_ne _ _ _ _ hne).trans hx) e1 fun c o hc e => (Heap.get?_update_ne _ _ _ _ hc).trans e)

theorem vf_initC {v dv : Addr} {r mx : Int} {t1 t2 t3 t4 : Tok} {Q : Value → Shared → Prop} (W : WW w b mg mb bm ob) (st : St b s) (hA : A.handled = none) (hD : A.depth < 700) (hU : A.units ≤ 300)
    (hx : s.heap.get? v = some ⟨.ref 94, some dv, .plain, #[]⟩) (hd : s.heap.get? dv = some (dictOf [] 0)) (gv : 232 < v) (gd : 232 < dv) (fd : b.get? dv = none)
    (h : ∀ s' ln x dx, Nx b [dv] s s' → VF w b s'.heap v dv ln x mx [] → Acc w b s'.heap x dx r [] [] → Dis v dv ln x dx → s.heap.objs.size ≤ ln → s.heap.objs.size ≤ x → s.heap.objs.size ≤ dx → Q .none s') :
    codeAny (model PW w) A (.call (.ref 35) ⟨[.ref v, .int r t1, .int mx t2, .str (Str.ofString "\t") t3, .str (Str.ofString " ") t4], []⟩) (fun r s' => match r with | .ok (.ret v) => Q v s' | .ok _ => False | .error e => E e s') s := by
  refine enterC (f := 35) (binds := [(Str.ofString "self", .ref v), (Str.ofString "headerlen", .int r t1), (Str.ofString "maxlen", .int mx t2), (Str.ofString "continuation_ws", .str (Str.ofString "\t") t3), (Str.ofString "splitchars", .str (Str.ofString " ") t4)]) W st (Nat.lt_trans hD (by decide)) rfl rfl (by kernel_rfl) (BindsTo.of_eq rfl) (by decide) (locs rfl) (fun A₁ s₁ E' L hA₁ hD₁ hU₁ hL N₁ hLs hns => ?_)
  have hA₁' := hA₁.trans hA
  have hL2 : 232 < L := by rw [hL]; exact st.lt W
  have Ld : L ≠ dv := fun q => by have := Heap.lt_size hd; rw [← q, hL] at this; exact Nat.lt_irrefl _ this
  have hx₁ := N₁.kp _ _ (notab_of gv) List.not_mem_nil hx
  have hd₁ := N₁.kp _ _ (notab_of gd) List.not_mem_nil hd
  refine wpAny_execs_cons (plainObj_wpAny_Assign_Attribute (nm_loc (v := .int mx t2) hns (nm_loc (v := .ref v) hns ?_)))
  refine vf_set (name := "_maxlen") (es := []) W N₁.st hx₁ hd₁ gd fd rfl (fun tk => rfl) (by decide) fun k1 s₂ N₂ hx₂ hd₂ kp₂ => ?_
  have hns₂ := N₂.ns hns hL2 (ni Ld)
  show wpAny _ _ _ _ _ _
  refine wpAny_execs_cons (plainObj_wpAny_Assign_Attribute (nm_loc (v := .str (Str.ofString "\t") t3) hns₂ (nm_loc (v := .ref v) hns₂ ?_)))
  refine vf_set (name := "_continuation_ws") (es := _) W N₂.st hx₂ hd₂ gd fd rfl (fun tk => rfl) (by simp) fun k2 s₃ N₃ hx₃ hd₃ kp₃ => ?_
  have hns₃ := N₃.ns hns₂ hL2 (ni Ld)
  show wpAny _ _ _ _ _ _
  refine wpAny_execs_cons (plainObj_wpAny_Assign_Attribute (Call_ (nm_bi W N₃.st rfl (PyProof.Rows.callWith_builtin1 (spliced_more (nm_loc (v := .str (Str.ofString "\t") t3) hns₃ (spliced_none (PySem.P.len_str (by decide) ?_))))))))
  refine nm_loc (s := { s₃ with toks := s₃.toks + 1 + 1 }) (v := .ref v) hns₃ ?_
  refine vf_set (s := { s₃ with toks := s₃.toks + 1 + 1 }) (name := "_continuation_ws_len") (es := _) W N₃.st.toks hx₃ hd₃ gd fd rfl (fun tk => rfl) (by simp) fun k3 s₄ N₄ hx₄ hd₄ kp₄ => ?_
  have hns₄ := N₄.ns (s := { s₃ with toks := s₃.toks + 1 + 1 }) hns₃ hL2 (ni Ld)
  show wpAny _ _ _ _ _ _
  refine wpAny_execs_cons (plainObj_wpAny_Assign_Attribute (nm_loc (v := .str (Str.ofString " ") t4) hns₄ (nm_loc (v := .ref v) hns₄ ?_)))
  refine vf_set (name := "_splitchars") (es := _) W N₄.st hx₄ hd₄ gd fd rfl (fun tk => rfl) (by simp) fun k4 s₅ N₅ hx₅ hd₅ kp₅ => ?_
  have hns₅ := N₅.ns hns₄ hL2 (ni Ld)
  have M₅ : Nx b [dv] s s₅ := (((N₁.lt0 N₂).tr N₃).toks.tr N₄).tr N₅
  show wpAny _ _ _ _ _ _
  -- self._lines = []
  refine wpAny_execs_cons (plainObj_wpAny_Assign_Attribute (List_ (spliced_none (wpAny_newObj_type ?_ (by size_fits)))))
  have N₆ := Nx.push N₅.st (o := { cls := .type "list", data := .seq #[] })
  have hns₆ := N₆.ns hns₅ hL2
  have ks : ∀ {c o}, s₅.heap.get? c = some o → (s₅.heap.push { cls := .type "list", data := .seq #[] }).get? c = some o := fun e => Heap.get?_push_of_some _ e
  refine nm_loc (v := .ref v) hns₆ ?_
  refine vf_set (name := "_lines") (es := _) W N₆.st (ks hx₅) (ks hd₅) gd fd rfl (fun tk => rfl) (by simp) fun k5 s₇ N₇ hx₇ hd₇ kp₇ => ?_
  have hns₇ := N₇.ns hns₆ hL2 (ni Ld)
  have M₇ : Nx b [dv] s s₇ := (M₅.rt0 N₆).tr N₇
  have lnd : s₅.heap.objs.size ≠ dv := fun q => by have := Heap.lt_size hd₅; rw [← q] at this; exact Nat.lt_irrefl _ this
  have hl₇ : s₇.heap.get? s₅.heap.objs.size = some { cls := .type "list", data := .seq #[] } := kp₇ _ _ lnd (Heap.get?_push_size _ rfl)
  show wpAny _ _ _ _ _ _
  -- self._current_line = _Accumulator(headerlen)
  refine wpAny_execs_cons (plainObj_wpAny_Assign_Attribute (Call_ (nm_glob (v := .ref 178) W N₇.st (callWith_K (K := KK w) (N₇.st.k W) (by kernel_rfl) (spliced_more (nm_loc (v := .int r t1) hns₇ (spliced_none ⟨N₇.st.k W, ?_⟩)))) (by kernel_rfl))))
  refine acc_new W N₇.st hA₁' (by omega) (by omega) fun s₈ x dx N₈ a₈ fx fdx => ?_
  have hns₈ := N₈.ns hns₇ hL2
  have hx₈ := N₈.kp _ _ (notab_of gv) List.not_mem_nil hx₇
  have hd₈ := N₈.kp _ _ (notab_of gd) List.not_mem_nil hd₇
  have gln : 232 < s₅.heap.objs.size := N₅.st.lt W
  have hl₈ := N₈.kp _ _ (notab_of gln) List.not_mem_nil hl₇
  refine nm_loc (v := .ref v) hns₈ ?_
  refine vf_set (name := "_current_line") (es := _) W N₈.st hx₈ hd₈ gd fd rfl (fun tk => rfl) (by simp) fun k6 s₉ N₉ hx₉ hd₉ kp₉ => ?_
  have lt₇ : ∀ {c o}, s₇.heap.get? c = some o → c < s₇.heap.objs.size := fun e => Heap.lt_size e
  have D : Dis v dv s₅.heap.objs.size x dx := by
    have h1 := lt₇ hx₇
    have h2 := lt₇ hd₇
    have h3 := lt₇ hl₇
    exact ⟨Nat.ne_of_lt (Nat.lt_of_lt_of_le h1 fx), Nat.ne_of_lt (Nat.lt_of_lt_of_le h2 fx), Nat.ne_of_lt (Nat.lt_of_lt_of_le h3 fx), Nat.ne_of_lt (Nat.lt_of_lt_of_le h1 fdx), Nat.ne_of_lt (Nat.lt_of_lt_of_le h2 fdx), Nat.ne_of_lt (Nat.lt_of_lt_of_le h3 fdx),
      Nat.ne_of_lt (Heap.lt_size hx₅), Nat.ne_of_lt (Heap.lt_size hd₅)⟩
  have M₉ : Nx b [dv] s s₉ := (M₇.rt0 N₈).tr N₉
  refine wpAny_execs_nil (h s₉ s₅.heap.objs.size x dx M₉ ⟨hx₉, ⟨k1, k2, k3, k4, k5, k6, t2, t3, _, t4, 6, hd₉⟩, ⟨#[], ⟨_, 0, kp₉ _ _ lnd hl₈, rfl, rfl, rfl⟩, .nil⟩, gv, gd, gln, st.fresh M₅.sz⟩ (a₈.nx N₉ (ni D.dvx.symm) (ni D.dvd.symm) (fun T hT => nomatch hT)) D M₅.sz (Nat.le_trans M₇.sz fx) (Nat.le_trans M₇.sz fdx))

theorem vf_new {r mx : Int} {t1 t2 t3 t4 : Tok} {Q : Value → Shared → Prop} (W : WW w b mg mb bm ob) (st : St b s) (hA : A.handled = none) (hD : A.depth < 690) (hU : A.units ≤ 290)
    (h : ∀ s' v dv ln x dx, Nx b [] s s' → VF w b s'.heap v dv ln x mx [] → Acc w b s'.heap x dx r [] [] → Dis v dv ln x dx → s.heap.objs.size ≤ v → s.heap.objs.size ≤ dv → s.heap.objs.size ≤ ln → s.heap.objs.size ≤ x → s.heap.objs.size ≤ dx → Q (.ref v) s') :
    wpAny (model PW w) A (call (.ref 94) [.int r t1, .int mx t2, .str (Str.ofString "\t") t3, .str (Str.ofString " ") t4]) Q E s := by
  have X := st.k W
  have N₁ := Nx.push st (o := emptyDict)
  have N₂ := N₁.tr (Nx.push N₁.st (o := instObj 94 s.heap.objs.size))
  have gs := st.lt W
  have hwt : Code.weight (.builtin "type.__call__" ⟨[.ref 94, .int r t1, .int mx t2, .str (Str.ofString "\t") t3, .str (Str.ofString " ") t4], []⟩) = 1 := by kernel_rfl
  refine wpAny_call ?_
  obtain ⟨hh, g, d, t, os⟩ := s
  refine make_core (makes_of X (by kernel_rfl)) (looks_findIn X (r := some (.ref 35)) (by kernel_rfl)) (fun self => bind_fn X self (by kernel_rfl)) (.inl rfl) ?_
  have hd : ((hh.push emptyDict).push (instObj 94 hh.objs.size)).get? hh.objs.size = some (dictOf [] 0) := Heap.get?_push_of_some _ (Heap.get?_push_size _ rfl)
  have hx : ((hh.push emptyDict).push (instObj 94 hh.objs.size)).get? (hh.objs.size + 1) = some ⟨.ref 94, some hh.objs.size, .plain, #[]⟩ := by
    have := Heap.get?_push_size (h := hh.push emptyDict) (o := instObj 94 hh.objs.size) rfl
    rw [Heap.size_push] at this
    exact this
  refine codeAny_mono (vf_initC (Q := fun v s' => v = .none ∧ Q (.ref (hh.objs.size + 1)) s') (E := fun e s' => E e s') (s := ⟨(hh.push emptyDict).push (instObj 94 hh.objs.size), g, d, t, os⟩) W N₂.st hA ?_ ?_ hx hd (Nat.lt_succ_of_lt gs) gs (st.fresh (Nat.le_refl _)) fun s' ln x dx N VV a D f1 f2 f3 => ⟨rfl, ?_⟩) fun rr s' z => ?_
  · show A.depth + Code.weight _ < 700
    rw [hwt]; omega
  · show A.units + 1 ≤ 300
    omega
  · refine h s' _ _ ln x dx (N₂.trans N (fun _ h => nomatch h) (fun c hc => .inr (by rw [List.mem_singleton.mp hc]; exact Nat.le_refl _))) VV a D (Nat.le_succ _) (Nat.le_refl _) (Nat.le_trans N₂.sz f1) (Nat.le_trans N₂.sz f2) (Nat.le_trans N₂.sz f3)
  · rcases rr with e | (v | _ | _ | _) <;> first | exact z | exact z.elim
end
end Mine
end -- C25
section -- C26
/-! C26: one word more, and what the rows are -/
set_option maxRecDepth 100000
namespace Mine
open PySem PySem.W PySem.Calls PyProof.Rows Builtin Builtin.ObjectAttr
set_option maxHeartbeats 1000000

/-- rows, the room left of the line, the line's parts -/
noncomputable abbrev LS : Type := List Str × Int × List (Str × Str)
noncomputable def sp : Str := Str.ofString " "
noncomputable def layStep (mx : Int) (z : LS) (wd : Str) : LS :=
  if z.2.1 + plen (z.2.2 ++ [(sp, wd)]) ≤ mx then (z.1, z.2.1, z.2.2 ++ [(sp, wd)])
  else if z.2.2 = [] then ((if 0 < z.2.1 then z.1 ++ [ptext [(Str.ofString "", Str.ofString "")]] else z.1), 0, [(sp, wd)])
  else (z.1 ++ [ptext z.2.2], 0, [(sp, wd)])
noncomputable def layAll (mx r : Int) (ws : List Str) : LS := ws.foldl (layStep mx) ([], r, [])
noncomputable def layRows (mx r : Int) (ws : List Str) : List Str := (layAll mx r ws).1 ++ [ptext (layAll mx r ws).2.2]
structure LB (k : Nat) (z : LS) : Prop where
  r : z.1.length ≤ k
  p : z.2.2.length ≤ k
  n : 0 ≤ z.2.1 ∧ z.2.1 ≤ 1000
  s : ∀ p ∈ z.2.2, p.1.length ≤ 1000 ∧ p.2.length ≤ 1000
theorem LB.step {k : Nat} {z : LS} {mx : Int} {wd : Str} (h : LB k z) (hw : wd.length ≤ 1000) : LB (k + 1) (layStep mx z wd) := by
  have hs : sp.length ≤ 1000 := by decide
  unfold layStep
  split
  · exact ⟨Nat.le_succ_of_le h.r, by simpa using h.p, h.n, fun p hp => by
      rcases List.mem_append.mp hp with q | q
      · exact h.s p q
      · rw [List.mem_singleton.mp q]; exact ⟨hs, hw⟩⟩
  · split
    · refine ⟨?_, by simp, ⟨Int.le_refl _, (by show (0 : Int) ≤ 1000; decide)⟩, fun p hp => by rw [List.mem_singleton.mp hp]; exact ⟨hs, hw⟩⟩
      dsimp only
      split
      · simpa using h.r
      · exact Nat.le_succ_of_le h.r
    · exact ⟨by simpa using h.r, by simp, ⟨Int.le_refl _, (by show (0 : Int) ≤ 1000; decide)⟩, fun p hp => by rw [List.mem_singleton.mp hp]; exact ⟨hs, hw⟩⟩

section
variable {w : World} {A : Around} {E : Value → Shared → Prop} {s : Shared} {b : Heap} {mg mb : Str → Option Value} {bm : Addr} {ob : Obj} {env : Env}
theorem tup_ne_ln {h : Heap} {v dv ln x x' dx : Addr} {mx n : Int} {rows : List Str} {Ts : List Addr} {ps : List (Str × Str)} (F : VF w b h v dv ln x mx rows) (a : Acc w b h x' dx n Ts ps) : ∀ T ∈ Ts, T ≠ ln := fun T hT q => by
  obtain ⟨j, hj⟩ := List.getElem?_of_mem hT
  have hj' : j < ps.length := by rw [← a.len]; exact (List.getElem?_eq_some_iff.mp hj).1
  obtain ⟨t1, t2, o, e, c, _⟩ := a.tup j T ps[j] hj (List.getElem?_eq_getElem hj')
  obtain ⟨its, ⟨ol, nl, el, cl, _⟩, _⟩ := F.ls
  rw [q, el] at e
  cases e
  rw [cl] at c
  simp at c

theorem append_one {v dv ln x dx : Addr} {mx : Int} {z : LS} {k : Nat} {Ts : List Addr} {wd : Str} {t1 t2 : Tok} {Q : Value → Shared → Prop} (W : WW w b mg mb bm ob) (st : St b s) (hA : A.handled = none) (hD : A.depth < 800) (hu : A.units < 8000)
    (F : VF w b s.heap v dv ln x mx z.1) (a : Acc w b s.heap x dx z.2.1 Ts z.2.2) (D : Dis v dv ln x dx) (lb : LB k z) (hk : k ≤ 50) (hw : wd.length ≤ 1000)
    (h : ∀ s' Ts', Nx b [x, dx, ln] s s' → VF w b s'.heap v dv ln x mx (layStep mx z wd).1 → Acc w b s'.heap x dx (layStep mx z wd).2.1 Ts' (layStep mx z wd).2.2 → Q .none s') :
    wpAny (model PW w) A (call (.ref 91) [.ref v, .str sp t1, .str wd t2]) Q E s := by
  obtain ⟨rows, n, ps⟩ := z
  have hs : sp.length ≤ 1000 := by decide
  have h1 : rows.length ≤ k := lb.r
  have h2 : ps.length ≤ k := lb.p
  have sm : Small n (ps ++ [(sp, wd)]) := ⟨lb.n.1, lb.n.2, by simp; omega, fun p hp => by
    rcases List.mem_append.mp hp with q | q
    · exact lb.s p q
    · rw [List.mem_singleton.mp q]; exact ⟨hs, hw⟩⟩
  by_cases hf : n + plen (ps ++ [(sp, wd)]) ≤ mx
  · have e : layStep mx (rows, n, ps) wd = (rows, n, ps ++ [(sp, wd)]) := by unfold layStep; rw [if_pos hf]
    rw [e] at h
    exact append_fit W st hA hD F a D.vx D.dvx D.lx sm hf fun s' T N a' => h s' _ (N.mono fun c hc => .inl (by simp at hc; simp [hc])) (N.vf F (ni D.vx) (ni D.dvx) (ni D.lx)) a'
  · have hf' : mx < n + plen (ps ++ [(sp, wd)]) := Int.not_le.mp hf
    by_cases hp : ps = []
    · subst hp
      have e : layStep mx (rows, n, []) wd = ((if 0 < n then rows ++ [ptext [(Str.ofString "", Str.ofString "")]] else rows), 0, [(sp, wd)]) := by unfold layStep; rw [if_neg hf, if_pos rfl]
      rw [e] at h
      have hT : Ts = [] := List.eq_nil_of_length_eq_zero a.len
      subst hT
      exact append_alone W st hA hD hu F a D sm hf' (Nat.le_trans h1 (by omega)) fun s' T N F' a' _ => h s' _ N F' a'
    · have e : layStep mx (rows, n, ps) wd = (rows ++ [ptext ps], 0, [(sp, wd)]) := by unfold layStep; rw [if_neg hf, if_neg hp]
      rw [e] at h
      exact append_flush W st hA hD (by omega) F a D sm (List.length_pos_iff.mpr hp) (Nat.le_trans h2 (by omega)) hf' (Nat.le_trans h1 (by omega)) (tup_ne_ln F a) fun s' T N F' a' _ => h s' _ N F' a'
end
end Mine
end -- C26
section -- C27
/-! C27: lambdas are made -/
set_option maxRecDepth 100000
namespace Mine
open PySem PySem.W PySem.Calls PyProof.Rows Builtin Builtin.ObjectAttr
set_option maxHeartbeats 1000000

theorem KTab.aside {h h' : Heap} {P kc P' ps} (hP : P ≤ 232) (hk : ∀ a o, a ≠ P → h.get? a = some o → h'.get? a = some o) (x : KTab h kc P' ps) : KTab h' kc P' ps := by
  have gt : ∀ a : Addr, 232 < a → a ≠ P := fun a g q => absurd g (Nat.not_lt.mpr (q ▸ hP))
  obtain ⟨g1, g2, hd, ⟨q, r⟩, t, tq⟩ := x
  refine ⟨g1, g2, ?_, ⟨q, ?_⟩, hk _ _ (gt _ g2) t, tq.aside hP hk⟩
  · obtain ⟨o, vs, file, tf, flags, tg, inF, text, tt, e, rr⟩ := hd
    exact ⟨o, vs, file, tf, flags, tg, inF, text, tt, hk _ _ (gt _ g1) e, rr⟩
  · obtain ⟨c, o, vs, t, e', g', d, r⟩ := r
    cases e'
    exact ⟨_, o, vs, t, rfl, hk _ _ (gt _ g1) g', d, r⟩
theorem CodOK.k184 {h h' : Heap} {P : Addr} (x : CodOK h) (hP : P ≤ 232) (hne : P ≠ 184) (hk : ∀ a o, a ≠ P → h.get? a = some o → h'.get? a = some o) :
    h'.get? 184 = some (tabObj #[]) ∨ ∃ kc P ps, h'.get? 184 = some (tabObj #[rawInt 112, rawInt 4, .ref kc]) ∧ KTab h' kc P ps ∧ Full ps := by
  rcases x.c184 with e | ⟨kc, P', ps, e, k, f⟩
  · exact .inl (hk _ _ hne.symm e)
  · exact .inr ⟨kc, P', ps, hk _ _ hne.symm e, k.aside hP hk, f⟩
theorem snoc_eq {ps : Array Value} {l c : Nat} {a : Addr} : (ps ++ #[rawInt l, rawInt c, Value.ref a]).toList = ps.toList ++ [rawInt l, rawInt c, .ref a] := by simp
theorem CodOK.grow210 {h h' : Heap} {ps : Array Value} {l c : Nat} {a : Addr} {q : Str} (x : CodOK h) (hk : ∀ a o, a ≠ 210 → h.get? a = some o → h'.get? a = some o) (tq : TQ h q210 ps.toList) (e' : h'.get? 210 = some (tabObj (ps ++ #[rawInt l, rawInt c, .ref a])))
    (hq : q210.lookup ((l : Int), (c : Int)) = some q) (ga : 232 < a) (r : h'.CodeRec (.ref a) q) : CodOK h' where
  c210 := ⟨_, e', by rw [snoc_eq]; exact TQ.snoc hq ga r (tq.aside (by decide) hk)⟩
  c229 := let ⟨ps, e, t⟩ := x.c229; ⟨ps, hk _ _ (by decide) e, t.aside (by decide) hk⟩
  c184 := x.k184 (by decide) (by decide) hk
theorem CodOK.grow229 {h h' : Heap} {ps : Array Value} {l c : Nat} {a : Addr} {q : Str} (x : CodOK h) (hk : ∀ a o, a ≠ 229 → h.get? a = some o → h'.get? a = some o) (tq : TQ h q229 ps.toList) (e' : h'.get? 229 = some (tabObj (ps ++ #[rawInt l, rawInt c, .ref a])))
    (hq : q229.lookup ((l : Int), (c : Int)) = some q) (ga : 232 < a) (r : h'.CodeRec (.ref a) q) : CodOK h' where
  c210 := let ⟨ps, e, t⟩ := x.c210; ⟨ps, hk _ _ (by decide) e, t.aside (by decide) hk⟩
  c229 := ⟨_, e', by rw [snoc_eq]; exact TQ.snoc hq ga r (tq.aside (by decide) hk)⟩
  c184 := x.k184 (by decide) (by decide) hk

section
variable {w : World} {A : Around} {E : Value → Shared → Prop} {s : Shared} {b : Heap} {mg mb : Str → Option Value} {bm : Addr} {ob : Obj} {env : Env}
theorem mk_lam {qf : List ((Int × Int) × Str)} {P c : Addr} {ps : Array Value} {name qual : Str} {params : Arguments} {body : Expr} {scope : Scope} {pos : Pos} {fl : Nat} {clos : List (Str × Addr)} {Q : Value → Shared → Prop} (W : WW w b mg mb bm ob) (st : St b s)
    (hP : P ∈ tabs) (hps : s.heap.get? P = some (tabObj ps)) (tq : TQ s.heap qf ps.toList)
    (grow : ∀ (h' : Heap) (a : Addr), (∀ a o, a ≠ P → s.heap.get? a = some o → h'.get? a = some o) → h'.get? P = some (tabObj (ps ++ #[rawInt pos.line, rawInt pos.col, .ref a])) → 232 < a → h'.CodeRec (.ref a) qual → CodOK h')
    (hq : qf.lookup ((pos.line : Int), (pos.col : Int)) = some qual) (hcl : closureFor scope env = pure clos) (hge : env.globals = mainGlobals) (hcode : env.code = .ref c) (hch : codeHdIn (KK w) c P = true)
    (h : ∀ f s' c' ctv pm, Nx b [] s s' → s'.heap.get? f = some (kla_obj name qual params body scope clos pm c' ctv) → s'.heap.CodeRec (.ref c') qual → 232 < c' → s.heap.objs.size ≤ f → Q (.ref f) s') :
    wpAny (model PW w) A (makeFunction name qual params (.expr body) scope env [] [] [] pos fl) Q E s := by
  have C := codeHd_ext W st.toSt0 hch
  have hB := st.toSt0.bat W hps
  have hgP : mainGlobals ≠ P := fun q => by
    have : (3 : Nat) ∈ tabs := by rw [← q] at hP; exact hP
    revert this; decide
  have gs := st.lt W
  cases hc : codeAmong pos ps.toList with
  | some cv =>
    obtain ⟨c', q, rfl, e1, gc, r⟩ := tq.find hc
    rw [hq] at e1; cases e1
    refine kla_makeFunctionHit (mg := mg) hcl hge (st.mod W).ns hcode C hps tq.trip hc hB fun ctv h' tk hk hsz => ?_
    have N : Nx b [] s { s with heap := h', toks := tk } := Nx.all st hk rfl rfl rfl hsz
    have N2 := N.tr (Nx.push N.st (o := { cls := .type "function", data := .func (kla_fn name qual params body scope clos ((mg "__name__").getD .none) (.ref c') ctv) }))
    refine h _ _ c' ctv _ N2 (Heap.get?_push_size _ rfl) ?_ gc hsz
    obtain ⟨c₂, o, vs, t, e', g', d, r⟩ := r
    cases e'
    exact ⟨_, o, vs, t, rfl, Heap.get?_push_of_some _ (hk _ _ g'), d, r⟩
  | none =>
    refine kla_makeFunction (mg := mg) hcl hge (st.mod W).ns hcode C hps tq.trip hc hgP hB fun c' ctv h' tk hx hge' hlt hrec htb => ?_
    have hsz : s.heap.objs.size ≤ h'.objs.size := Nat.le_of_lt (Nat.lt_of_le_of_lt hge' hlt)
    have gc' : 232 < c' := Nat.lt_of_lt_of_le gs hge'
    have N0 : Nx0 b [] s { s with heap := h', toks := tk } := ⟨⟨fun a o e => hx a o (fun q => by rw [q, W.notab P hP] at e; cases e) (st.ext a o e), fun T hT => by
      by_cases q : T = P
      · subst q
        obtain ⟨ps', e, r⟩ := st.tab T hT
        rw [hps] at e
        have : ps = ps' := by
          have e2 := congrArg Obj.data (Option.some.inj e)
          exact Data.fields.inj e2
        subst this
        exact ⟨_, htb, by rw [Array.toList_append]; exact r.snoc _ _ _⟩
      · obtain ⟨ps', e, r⟩ := st.tab T hT
        exact ⟨ps', hx _ _ q e, r⟩, st.bare⟩, fun a o ht _ e => hx a o (fun q => ht (q ▸ hP)) e, hsz, rfl, rfl⟩
    have N : Nx b [] s { s with heap := h', toks := tk } := ⟨N0, grow h' c' (fun a o ha e => hx a o ha e) htb gc' hrec⟩
    have N2 := N.tr (Nx.push N.st (o := kla_obj name qual params body scope clos ((mg "__name__").getD .none) c' ctv))
    exact h _ _ c' ctv _ N2 (Heap.get?_push_size _ rfl) (hrec.push _) gc' hsz
end
end Mine
end -- C27
section -- C28
/-! C28: sorted(words, key=K), a loop from one state -/
set_option maxRecDepth 100000
namespace Mine
open PySem PySem.W PySem.Calls PyProof.Rows Builtin Builtin.ObjectAttr
set_option maxHeartbeats 1000000
section
variable {w : World} {A : Around} {E : Value → Shared → Prop} {s s₀ : Shared} {b : Heap} {mg mb : Str → Option Value} {bm : Addr} {ob : Obj} {env : Env} {B : List Addr} {O : List Str} {G : List (Str × VP)} {C cm fl lo hi : Addr} {FO : Nat → Value → Value → Addr → Value → Obj}

/-- the place of each word in the sorted list -/
noncomputable def sortP (o : Str) (ws : List Str) : List Nat := (runT (fun i j => decide (Txt.find o (headS (ws.getD i ⟨#[]⟩)) - Txt.find o (headS (ws.getD j ⟨#[]⟩)) < 0)) (kas_sort ws.length)).toList
noncomputable def sortW (o : Str) (ws : List Str) : List Str := (sortP o ws).map fun i => ws.getD i ⟨#[]⟩

theorem sorted_K {l : Addr} {o : Str} {ws : List Str} {vs : List Value} {Q : Value → Shared → Prop} (W : WW w b mg mb bm ob) (st : St b s) (hA : A.handled = none) (hD : A.depth < 850) (hU : A.units ≤ 390)
    (K : KAt w b lo hi s.heap C FO) (ok : FOk cm FO) (hc : s.heap.IsCell cm (some (.ref fl))) (gcm : 232 < cm) (L : Lam s.heap fl o)
    (hl : s.heap.IsList l vs.toArray) (hs : StrsAre vs ws) (hw : ∀ x ∈ ws, 1 ≤ x.length) (h2 : 2 ≤ ws.length) (h64 : ws.length < 64) (hok : okT ws.length (kas_sort ws.length) = true)
    (h : ∀ s' D c, Nx b [] s s' → s'.heap.get? D = some (seqObj "list" (List.toArray ((sortP o ws).map fun i => vs.getD i .none)) c) → s.heap.objs.size ≤ D → Q (.ref D) s') :
    wpAny (model PW w) A (call (.builtin "sorted") [.ref l] [(Str.ofString "key", .ref C)]) Q E s := by
  have hlen : vs.length = ws.length := by
    have : ∀ {vs : List Value} {ws : List Str}, StrsAre vs ws → vs.length = ws.length := fun h => by
      induction h with
      | nil => rfl
      | cons => simp [*]
    exact this hs
  refine call_function_entry_kw kind_sorted plain_sorted entry_sorted (ksk_s1 _ _) ?_
  unfold Builtin.«sorted»
  refine wpAny_bind (m := checkCount "sorted" 1 1 _) (wpAny_pure ?_)
  refine wpAny_bind (collect_list hl ?_ (by rw [sizeLine_eq]; omega))
  have N1 := Nx.push st (o := seqObj "list" #[] 0)
  have N2 := nx_upd (f := Obj.mapSeq (· ++ vs.toArray)) W N1 st (Nat.le_refl _) (NC.seq (Heap.get?_push_size (o := seqObj "list" #[] 0) _ rfl) rfl)
  refine wpAny_bind (wpAny_newList ?_ (by rw [sizeLine_eq]; omega))
  have N3 := N2.tr (Nx.push N2.st (o := seqObj "list" vs.toArray 0))
  have hoL := Heap.get?_push_size (h := (s.heap.push (seqObj "list" #[] 0)).update s.heap.objs.size (Obj.mapSeq (· ++ vs.toArray))) (o := seqObj "list" vs.toArray 0) rfl
  refine wpAny_bind (wpAny_holding (wpAny_call_entry_kw slot_list_sort ⟨_, hoL, rfl⟩ entry_list_sort ?_ (ksk_l1 _ _)))
  rw [ksk_t1]
  refine list_sort_K (A := A.in1.in1) W st N3 hA (Nat.lt_trans hD (by decide)) (Nat.le_trans (Nat.add_le_add_right hU 2) (by decide)) K ok hc gcm L hoL N2.sz hs hw h2 h64 hok fun s' c N hD' => ⟨_, rfl, wpAny_pure ⟨_, rfl, h s' _ c N hD' N2.sz⟩⟩

theorem Fm.hide2 {s2 : Shared} {a c : Addr} (F : Fm b O B env s₀ G s) (N : Nx b [] s s2) (ha : s.heap.objs.size ≤ a) (hl : a < s2.heap.objs.size) (hc : s.heap.objs.size ≤ c) (hlc : c < s2.heap.objs.size) : Fm b O (a :: c :: B) env s₀ G s2 := by
  have F2 := F.step N
  have hd : ∀ {a : Addr}, s.heap.objs.size ≤ a → s.heap.get? a = none := fun {a} ha => by
    cases e : s.heap.get? a with
    | none => rfl
    | some o => exact absurd (Heap.lt_size e) (Nat.not_lt.mpr ha)
  obtain ⟨m, hn, hv⟩ := F.vars
  refine ⟨F2.nx, F2.ks, F2.gl, F2.bl, F2.gL, F2.fL, F2.bf, fun d h => ?_, F2.lc, F2.own, m, ns_nx hn N F.gL, fun y P e => ?_⟩
  · rcases List.mem_cons.mp h with rfl | h
    · exact hl
    · rcases List.mem_cons.mp h with rfl | h
      · exact hlc
      · exact F2.lB d h
  · obtain ⟨v, hp, hh⟩ := hv y P e
    refine ⟨v, P.st (Mv.of0 N) (P.ext (hd ha) (P.ext (hd hc) hp)), ?_⟩
    rcases hh with hh | ⟨hk, c, hc, g, hcl⟩
    · exact .inl hh
    · exact .inr ⟨hk, c, hc, g, cell_nx hcl N g⟩

/-- for x in e: body, the source's value known at this one state -/
theorem st_forAt {x : Str} {px pos : Pos} {iter : Expr} {body : List Stmt} {Ps : List VP} {Q : Flow → Shared → Prop} (K : Nat → Shared → Prop)
    (hA : A.handled = none) (F : Fm b O B env s₀ G s) (hi : ∀ (Q : Value → Shared → Prop) (E : Value → Shared → Prop), (∀ I J s', Nx b [] s s' → Itr w b I Ps J → J B 0 s'.heap → s.heap.objs.size ≤ I → Q (.ref I) s') → wpAny (model PW w) A (eval iter env) (fun v s1 => wpAny (model PW w) A (pyIter v) Q E s1) E s)
    (hl : env.kindOf x = some .local ∨ (env.kindOf x = some .cell ∧ x ∈ O)) (hGx : G.lookup x = none)
    (hK : ∀ i a s1 s2, K i s1 → Nx b [a] s1 s2 → (s.heap.objs.size ≤ a ∨ Mine' env a) → (∀ o, s1.heap.get? a = some o → ∀ its n, o.data ≠ .seq its n) → K i s2) (h0 : ∀ s1, Nx b [] s s1 → K 0 s1)
    (turn : ∀ i P, Ps[i]? = some P → ∀ (s1 : Shared) (E' : Value → Shared → Prop), Fm b O B env s₀ ((x, P) :: G) s1 → K i s1 → s.heap.objs.size ≤ s1.heap.objs.size →
      wpAny (model PW w) A (execs body env) (fun f s2 => f = .next ∧ Fm b O B env s₀ G s2 ∧ K (i + 1) s2 ∧ ∃ X, Nx b X s1 s2 ∧ ∀ a ∈ X, (a ∈ B ∨ ∀ o, s1.heap.get? a = some o → ∀ its n, o.data ≠ .seq its n) ∧ (a < s.heap.objs.size ∨ s1.heap.objs.size ≤ a)) E' s1)
    (done : ∀ s', Fm b O B env s₀ G s' → K Ps.length s' → Q .next s') (hs : ∀ x, foldedSetIterable iter env x = pure x := by intro _; rfl) :
    wpAny (model PW w) A (exec (.For (.Name x px) iter body [] pos) env) Q E s := by
  refine wpAny_For (hi _ _ fun I J sa Na it j0 hI => ?_) hs
  refine codeAny_forLoop (fun n s' => ∃ i, n = Ps.length + 1 - i ∧ i ≤ Ps.length ∧ Fm b O B env s₀ G s' ∧ J B i s'.heap ∧ K i s' ∧ sa.heap.objs.size ≤ s'.heap.objs.size) ?_ (Ps.length + 1)
    ⟨0, rfl, Nat.zero_le _, F.step Na, j0, h0 sa Na, Nat.le_refl _⟩
  rintro n s1 ⟨i, rfl, hi, F1, j1, k1, z1⟩
  have stepI : ∀ {s s' : Shared} {i : Nat}, Fm b O B env s₀ G s → J B i s.heap → Nx b [I] s s' → Fm b O B env s₀ G s' := fun F hj N => by
    obtain ⟨o, e, vs, hd⟩ := it.live hj
    exact F.stepX N fun a ha => by rw [List.mem_singleton.mp ha]; exact ⟨not_wr_fields e hd, Nat.le_trans (Fm.nx ‹Fm b O B env s₀ G s›).sz hI, .inr (noseq_fields e hd)⟩
  have nsI : ∀ {s : Shared} {i : Nat}, J B i s.heap → ∀ o, s.heap.get? I = some o → ∀ its n, o.data ≠ .seq its n := fun hj => by
    obtain ⟨o, e, vs, hd⟩ := it.live hj
    exact noseq_fields e hd
  by_cases hlt : i < Ps.length
  · have hP : Ps[i]? = some Ps[i] := List.getElem?_eq_getElem hlt
    refine it.item hA hP F1.st j1 fun v s2 N2 j2 p2 => ?_
    have F2 := stepI F1 j1 N2
    have k2 := hK i I _ _ k1 N2 (.inl hI) (nsI j1)
    refine wpAny_assign_Name (F2.setM p2 hl fun a s3 N3 wr hm F3 => ?_)
    have hIa : I ≠ a := fun q => by
      obtain ⟨o, e, vs, hd⟩ := it.live j2
      exact wr.nofld (q ▸ e) hd
    have j3 := it.frame j2 N3 (fun q => hIa (List.mem_singleton.mp q)) fun c hc => .inr (by rw [List.mem_singleton.mp hc]; exact wr.noseq)
    have k3 := hK i a _ _ k2 N3 (.inr hm) wr.noseq
    have z3 : sa.heap.objs.size ≤ s3.heap.objs.size := Nat.le_trans z1 (Nat.le_trans N2.sz N3.sz)
    refine wpAny_mono (turn i _ hP s3 _ F3 k3 (Nat.le_trans Na.sz z3)) (fun f s4 h4 => ?_) fun _ _ e => e
    obtain ⟨rfl, F4, k4, X, N4, hX⟩ := h4
    refine ⟨Ps.length + 1 - (i + 1), sub_step hlt, i + 1, rfl, hlt, F4, it.frame j3 N4 (fun q => ?_) (fun c hc => (hX c hc).1), k4, Nat.le_trans z3 N4.sz⟩
    obtain ⟨o, e, _⟩ := it.live j3
    rcases (hX I q).2 with h | h
    · exact absurd h (Nat.not_lt.mpr hI)
    · exact absurd (Heap.lt_size e) (Nat.not_lt.mpr h)
  · have : i = Ps.length := Nat.le_antisymm hi (Nat.not_lt.mp hlt)
    subst this
    refine it.done hA F1.st j1 fun s2 N2 => ?_
    exact wpAny_execs_nil (done s2 (stepI F1 j1 N2) (hK _ I _ _ k1 N2 (.inl hI) (nsI j1)))
end
end Mine
end -- C28
section -- C29
/-! C29: _law_lay -/
set_option maxRecDepth 100000
namespace Mine
open PySem PySem.W PySem.Calls PyProof.Rows Builtin Builtin.ObjectAttr
set_option maxHeartbeats 1000000
section
variable {w : World} {A : Around} {E : Value → Shared → Prop} {s s₀ : Shared} {b : Heap} {mg mb : Str → Option Value} {bm : Addr} {ob : Obj} {env : Env} {B : List Addr} {O : List Str} {G : List (Str × VP)}

theorem Lam.nxX {s s' : Shared} {X : List Addr} {fl : Addr} {o : Str} (L : Lam s.heap fl o) (N : Nx b X s s') (hX : ∀ a ∈ X, fl ≠ a ∧ NC s.heap a ∧ ∀ v, ¬ s.heap.IsCell a v) : Lam s'.heap fl o := by
  obtain ⟨name, qual, pm, ctv, c', oc, t, px, py, p1, p3, p4, p5, p7, p9, p10, p11, p13, k1, k2, a1, a2, a3, a4, a5, b1, b2, b3, b4, b5, e, r, gc, hc, go, gf⟩ := L.ex
  refine ⟨name, qual, pm, ctv, c', oc, t, px, py, p1, p3, p4, p5, p7, p9, p10, p11, p13, k1, k2, a1, a2, a3, a4, a5, b1, b2, b3, b4, b5, N.kp _ _ (notab_of gf) (fun h => (hX _ h).1 rfl) e, ?_, gc, cell_nx hc N go (fun h => (hX _ h).2.2 _ hc), go, gf⟩
  obtain ⟨o', g', hcd⟩ := rec_codey r
  obtain ⟨c, o, vs, t, e', g, d, r⟩ := r
  cases e'
  rw [g] at g'; cases g'
  exact ⟨_, _, vs, t, rfl, N.kp _ _ (notab_of gc) (fun h => by have := (hX _ h).2.1 _ g; rw [hcd] at this; cases this) g, d, r⟩

/-- key = cmp_to_key(lambda ..) -/
theorem lay_key {o : Str} {px py p0 p1 p2 p3 p4 p5 p7 p9 p10 p11 p13 : Pos} {k1 k2 a1 a2 a3 a4 a5 b1 b2 b3 b4 b5 n1 n2 : Nat} {oc : Addr} {Q : Value → Shared → Prop} (W : WW w b mg mb bm ob) (F : Fm b O B env s₀ G s) (hA : A.handled = none) (hD : A.depth < 800)
    (hG : G.lookup (Str.ofString "order") = some (strV o)) (hcell : env.kindOf (Str.ofString "order") = some .cell) (hoc : env.cells.lookup (Str.ofString "order") = some oc) (hcl : closureFor scLam env = pure [(Str.ofString "order", oc)]) (hcode : env.code = .ref 214) (hq : env.qual ++ "<lambda>" = Str.ofString "_law_lay.<locals>.<lambda>")
    (hx : env.kindOf (Str.ofString "cmp_to_key") = some .globalImplicit)
    (h : ∀ C cm fl FO lo hi s', Nx b [] s s' → FOk cm FO → KAt w b lo hi s'.heap C FO → s.heap.objs.size ≤ lo → hi ≤ s'.heap.objs.size → s'.heap.IsCell cm (some (.ref fl)) → s.heap.objs.size ≤ cm → Lam s'.heap fl o → s.heap.objs.size ≤ fl → Q (.ref C) s') :
    wpAny (model PW w) A (eval (.Call (.Name (Str.ofString "cmp_to_key") p0) [.Lambda (args2 (Str.ofString "one") (Str.ofString "other") px py) (bdLam p1 p3 p4 p5 p7 p9 p10 p11 p13 k1 k2 a1 a2 a3 a4 a5 b1 b2 b3 b4 b5) scLam ⟨163, 21, n1, n2⟩] [] p2) env) Q E s := by
  refine Call_ (nm_glob (v := .ref 189) W F.st (callWith_K (K := KK w) (F.st.k W) (by kernel_rfl) (spliced_more (kla_eval (by kernel_rfl) ?_))) (by kernel_rfl) F.ks hx F.gl (by decide)) rfl
  rw [hq]
  obtain ⟨ps, e210, tq⟩ := F.st.cod.c210
  refine mk_lam (P := 210) (c := 214) (qf := q210) W F.st (by decide) e210 tq (fun h' a hk e' ga r => F.st.cod.grow210 hk tq e' rfl ga r) rfl hcl F.gl hcode (by kernel_rfl) fun f s1 c' ctv pm N1 hf hr gc hfs => ?_
  obtain ⟨m, hn, hv⟩ := F.vars
  obtain ⟨v, ⟨t, rfl⟩, hh⟩ := hv _ _ hG
  have hcc : s.heap.IsCell oc (some (.str o t)) ∧ 232 < oc := by
    rcases hh with ⟨hk, _⟩ | ⟨_, c, hc, g, hcc⟩
    · rw [hcell] at hk; cases hk
    · rw [hoc] at hc; cases hc; exact ⟨hcc, g⟩
  have L1 : Lam s1.heap f o := ⟨_, _, _, _, c', oc, t, px, py, p1, p3, p4, p5, p7, p9, p10, p11, p13, k1, k2, a1, a2, a3, a4, a5, b1, b2, b3, b4, b5, hf, hr, gc, cell_nx hcc.1 N1 hcc.2, hcc.2, Nat.lt_of_lt_of_le (F.st.lt W) hfs⟩
  refine spliced_none ⟨N1.st.k W, cmp_to_key W N1.st hA hD fun C cm FO lo hi s2 N2 ok K hlo hhi hc hcm hcl => ?_⟩
  exact h C cm f FO lo hi s2 (N1.tr N2) ok K (Nat.le_trans N1.sz hlo) hhi hc (Nat.le_trans N1.sz hcm) (L1.nx N2) hfs
end
end Mine
end -- C29
section -- C30
/-! C30: _law_lay, the whole -/
set_option maxRecDepth 100000
namespace Mine
open PySem PySem.W PySem.Calls PyProof.Rows Builtin Builtin.ObjectAttr
set_option maxHeartbeats 1000000
noncomputable def allT {α : Type} (p : α → Bool) : KasT α → Bool
  | .ret a => p a
  | .ask _ _ k => allT p (k true) && allT p (k false)
theorem allT_run {α : Type} {p : α → Bool} {lt : Nat → Nat → Bool} : ∀ {t : KasT α}, allT p t = true → p (runT lt t) = true
  | .ret a, h => h
  | .ask i j k, h => by
    unfold allT at h
    simp only [Bool.and_eq_true] at h
    unfold runT
    cases lt i j with
    | true => exact allT_run h.1
    | false => exact allT_run h.2
theorem ok4 : okT 4 (kas_sort 4) = true := by decide +kernel
theorem all4 : allT (fun p => p.toList.all (fun i => decide (i < 4)) && p.toList.length == 4) (kas_sort 4) = true := by decide +kernel
theorem sortP_lt {o : Str} {ws : List Str} (h : ws.length = 4) : (∀ i ∈ sortP o ws, i < ws.length) ∧ (sortP o ws).length = 4 := by
  have := allT_run (lt := fun i j => decide (Txt.find o (headS (ws.getD i ⟨#[]⟩)) - Txt.find o (headS (ws.getD j ⟨#[]⟩)) < 0)) all4
  unfold sortP
  rw [h]
  simp only [Bool.and_eq_true, List.all_eq_true, decide_eq_true_eq, beq_iff_eq] at this
  exact this
theorem strs_pick {vs : List Value} {ws : List Str} (h : StrsAre vs ws) : ∀ {is : List Nat}, (∀ i ∈ is, i < ws.length) → StrsAre (is.map fun i => vs.getD i .none) (is.map fun i => ws.getD i ⟨#[]⟩)
  | [], _ => .nil
  | i :: r, hi => by
    have : ∀ {vs : List Value} {ws : List Str}, StrsAre vs ws → ∀ {i : Nat}, i < ws.length → ∃ t, vs.getD i .none = .str (ws.getD i ⟨#[]⟩) t := fun h => by
      induction h with
      | nil => intro i h; simp at h
      | cons x t r ih =>
        intro i h
        cases i with
        | zero => exact ⟨t, rfl⟩
        | succ i => exact ih (by simpa using h)
    obtain ⟨t, e⟩ := this h (hi i (.head _))
    rw [List.map_cons, List.map_cons, e]
    exact .cons _ t (strs_pick h fun j hj => hi j (.tail _ hj))

noncomputable def layZ (mx r : Int) (ws : List Str) (i : Nat) : LS := (ws.take i).foldl (layStep mx) ([], r, [])
theorem layZ_succ {mx r : Int} {ws : List Str} {i : Nat} {wd : Str} (h : ws[i]? = some wd) : layZ mx r ws (i + 1) = layStep mx (layZ mx r ws i) wd := by
  unfold layZ
  rw [List.take_add_one, h, List.foldl_append]
  rfl
theorem layZ_lb {mx r : Int} {ws : List Str} (hr : 0 ≤ r ∧ r ≤ 1000) (hw : ∀ x ∈ ws, x.length ≤ 1000) : ∀ i, i ≤ ws.length → LB i (layZ mx r ws i)
  | 0, _ => ⟨Nat.le_refl _, Nat.le_refl _, hr, fun p hp => nomatch hp⟩
  | i + 1, h => by
    rw [layZ_succ (List.getElem?_eq_getElem h)]
    exact (layZ_lb hr hw i (Nat.le_of_lt h)).step (hw _ (List.getElem_mem h))

section
variable {w : World} {A : Around} {E : Value → Shared → Prop} {s s₀ : Shared} {b : Heap} {mg mb : Str → Option Value} {bm : Addr} {ob : Obj} {env : Env} {B : List Addr} {O : List Str} {G : List (Str × VP)}

theorem law_lay {words : List Str} {o : Str} {width room : Int} (W : WW w b mg mb bm ob) (hA : A.handled = none) (hD : A.depth < 600) (hU : A.units ≤ 250) (hroom : 0 ≤ room ∧ room ≤ 1000) (hw : ∀ x ∈ words, 1 ≤ x.length ∧ x.length ≤ 1000) (h4 : words.length = 4) :
    CS w b A (.ref 215) [strsV words, strV o, intV width, intV room] (strsV (layRows width room (sortW o words))) := fun B s vs Q E st lB ar hq => by
  refine enterF (f := 215) (B := B) (ns := [Str.ofString "words", Str.ofString "order", Str.ofString "width", Str.ofString "room"]) (Ps := [strsV words, strV o, intV width, intV room]) [Str.ofString "order"] W st lB ar (Nat.lt_trans hD (by decide)) rfl rfl (by kernel_rfl) rfl rfl rfl rfl (by decide)
    (fun vs h => by obtain ⟨a, b, c, d, rfl⟩ := len4 h; rfl) (fun L x hx => by
      simp at hx
      rcases hx with rfl | rfl | rfl | rfl
      · exact .inl rfl
      · exact .inr ⟨rfl, rfl⟩
      · exact .inl rfl
      · exact .inl rfl) (fun L x hx => by rw [List.mem_singleton.mp hx]; rfl) fun L A₁ s₁ Q' E' hA₁ hD₁ hU₁ F r1 r2 => ?_
  have hA₁' := hA₁.trans hA
  have L1 : L < s₁.heap.objs.size := by obtain ⟨m, hn, _⟩ := F.vars; exact hn.lt
  -- key = cmp_to_key(lambda ..)
  refine wpAny_execs_cons (gen_post fun Q1 E1 hQ1 => wpAny_Assign_Name (lay_key (oc := L + 1) W F hA₁' (by omega) rfl rfl rfl rfl rfl (by kernel_rfl) rfl fun C cm fl FO lo hi s2 N2 ok K hlo hhi hc hcm Lm hfl => ?_))
  have F2 := F.step N2
  refine F2.setL (P := isV (.ref C)) rfl (fun s3 N3 M3 F3 => hQ1 _ _ ?_)
  show wpAny _ _ _ _ _ _
  -- maker = _ValueFormatter(room, width, '\\t', ' ')
  refine wpAny_execs_cons (gen_post fun Q2 E2 hQ2 => wpAny_Assign_Name (Call_ (nm_glob (v := .ref 94) W F3.st (callWith_K (K := KK w) (F3.st.k W) (by kernel_rfl) (spliced_more ((EV.name (P := intV room) : EV w b A₁ _ _ _ _) _ _ _ _ _ _ F3 fun v4 s4 N4 p4 => ?_))) (by kernel_rfl))))
  obtain ⟨t4, rfl⟩ := p4
  refine spliced_more ((EV.name (P := intV width) : EV w b A₁ _ _ _ _) _ _ _ _ _ _ (F3.step N4) fun v5 s5 N5 p5 => ?_)
  obtain ⟨t5, rfl⟩ := p5
  refine spliced_more (wpAny_Constant_str (spliced_more (wpAny_Constant_str (spliced_none ⟨N5.st.k W, ?_⟩))))
  have N35 := (N4.tr N5).toks (k := s5.toks + 1 + 1)
  refine vf_new W N35.st hA₁' (by omega) (by omega) fun s7 v dv ln x dx N7 V7 a7 D fv fdv fln fx fdx => ?_
  have lt7 : ln < s7.heap.objs.size := by obtain ⟨its, ⟨ol, nl, el, _⟩, _⟩ := V7.ls; exact Heap.lt_size el
  have F7 := (F3.step N35).hide2 N7 fx a7.ltx fln lt7
  refine F7.setL (P := isV (.ref v)) rfl (fun s8 N8 M8 F8 => hQ2 _ _ ?_)
  show wpAny _ _ _ _ _ _
  -- what has moved since K was made
  have N38 : Nx b [L] s3 s8 := (N35.tr N7).lt0 N8
  have N28 : Nx b [L] s2 s8 := N3.tr N38
  have gL : 232 < L := F.gL
  have s12 : s₁.heap.objs.size ≤ s2.heap.objs.size := N2.sz
  have s23 : s2.heap.objs.size ≤ s3.heap.objs.size := N3.sz
  have s37 : s3.heap.objs.size ≤ s7.heap.objs.size := Nat.le_trans N35.sz N7.sz
  have s35 : s3.heap.objs.size ≤ s5.heap.objs.size := N35.sz
  have nL : ∀ {c : Addr}, s₁.heap.objs.size ≤ c → c ≠ L := fun h q => Nat.lt_irrefl _ (Nat.lt_of_lt_of_le L1 (q ▸ h))
  obtain ⟨m2, hn2, _⟩ := F2.vars
  have K8 := K.nx N28 (fun a ha => by rw [List.mem_singleton.mp ha]; exact ⟨.inl (Nat.lt_of_lt_of_le L1 hlo), NC.ns hn2⟩)
  have Lm8 := Lm.nxX N28 (fun a ha => by rw [List.mem_singleton.mp ha]; exact ⟨nL hfl, NC.ns hn2, fun v hv => cell_ne_ns hn2 hv rfl⟩)
  have gcm : 232 < cm := Nat.lt_of_lt_of_le (F.st.lt W) hcm
  have hc8 := cell_nx hc N28 gcm (ni (nL hcm))
  have lv : v < s7.heap.objs.size := Heap.lt_size V7.at_
  have ldv : dv < s7.heap.objs.size := by obtain ⟨_, _, _, _, _, _, _, _, _, _, _, e⟩ := V7.di; exact Heap.lt_size e
  have up : ∀ {c : Addr}, s5.heap.objs.size ≤ c → s₁.heap.objs.size ≤ c := fun h => Nat.le_trans s12 (Nat.le_trans s23 (Nat.le_trans s35 h))
  have V8 := N8.vf V7 (ni (nL (up fv))) (ni (nL (up fdv))) (ni (nL (up fln)))
  have a8 := a7.nx N8 (ni (nL (up fx))) (ni (nL (up fdx))) (fun T hT => nomatch hT)
  have s78 : s7.heap.objs.size ≤ s8.heap.objs.size := N8.sz
  -- of the frame's own objects none is the maker's
  have mineLt : ∀ a, Mine' (callEnvC _ L 215) a → a < s₁.heap.objs.size := fun a hm => by
    rcases hm with rfl | ⟨y, hy⟩
    · exact L1
    · exact (F.lc y a hy).1
  have side : ∀ {c a : Addr}, s5.heap.objs.size ≤ c → c < s7.heap.objs.size → (s8.heap.objs.size ≤ a ∨ Mine' (callEnvC _ L 215) a) → c ≠ a := fun h1 h2 h3 q => by
    rcases h3 with h3 | h3
    · exact absurd (Nat.lt_of_lt_of_le h2 s78) (Nat.not_lt.mpr (q ▸ h3))
    · exact absurd (mineLt _ h3) (Nat.not_lt.mpr (q ▸ up h1))
  have hperm := sortP_lt (o := o) h4
  have hws : ∀ x ∈ sortW o words, 1 ≤ x.length ∧ x.length ≤ 1000 := fun x hx => by
    obtain ⟨i, hi, rfl⟩ := List.mem_map.mp hx
    have hl := hperm.1 i hi
    rw [List.getD_eq_getElem?_getD, List.getElem?_eq_getElem hl]
    exact hw _ (List.getElem_mem hl)
  have hsl : (sortW o words).length = 4 := by unfold sortW; rw [List.length_map]; exact hperm.2
  -- for word in sorted(words, key=key)
  refine wpAny_execs_cons (gen_post fun Q3 E3 hQ3 => st_forAt (Ps := (sortW o words).map strV) (fun i s' => ∃ Ts, VF w b s'.heap v dv ln x width (layZ width room (sortW o words) i).1 ∧ Acc w b s'.heap x dx (layZ width room (sortW o words) i).2.1 Ts (layZ width room (sortW o words) i).2.2) hA₁' F8 ?hi (.inl rfl) rfl ?hK ?h0 ?turn ?done)
  case hi =>
    intro Q₂ E₂ hq₂
    show wpAny _ _ (do callWith _ (← eval (.Name (Str.ofString "sorted") _) _) [] (backTo _ (starEach _ _)) (backToKw _ (keywordEach _ _))) _ _ _
    refine wpAny_bind (nm_bi W F8.st rfl (callWith_kw (spliced_more ((EV.name (P := strsV words) : EV w b A₁ _ _ _ _) _ _ _ _ _ _ F8 fun v9 s9 N9 p9 => spliced_none (kws_cons ((EV.name (P := isV (.ref C)) : EV w b A₁ _ _ _ _) _ _ _ _ _ _ (F8.step N9) fun v10 s10 N10 p10 => kws_nil ?_))))))
    cases p10
    have p10' := (strsV words).st (Mv.of0 N10) p9
    obtain ⟨l, its, rfl, gl, hB, ⟨nn, hp⟩, r⟩ := p10'
    have M := N9.tr N10
    refine sorted_K (vs := its.toList) W M.st hA₁' (by omega) (by omega) (K8.nx0 M) ok (cell_nx hc8 M gcm) gcm (Lm8.nx M) ⟨_, hp, rfl, nn, rfl⟩ r.strs (fun x hx => (hw x hx).1) (by omega) (by omega) (by rw [h4]; exact ok4) fun s11 Dl c N11 hDl hDf => ?_
    have gD : 232 < Dl := Nat.lt_of_lt_of_le (M.st.lt W) hDf
    have lBs : ∀ d ∈ x :: ln :: B, d < s10.heap.objs.size := fun d hd => Nat.lt_of_lt_of_le (F8.lB d hd) M.sz
    refine ITV.list A₁ (x :: ln :: B) s11 (.ref Dl) _ _ hA₁' N11.st (fun d hd => Nat.lt_of_lt_of_le (lBs d hd) N11.sz) ⟨Dl, _, rfl, gD, fun q => absurd (lBs _ q) (Nat.not_lt.mpr hDf), ⟨c, hDl⟩, AllR.ofStrs (strs_pick r.strs hperm.1)⟩ fun I J s12 N12 it j0 hI => ?_
    exact hq₂ I J s12 ((M.tr N11).tr N12) it j0 (Nat.le_trans M.sz (Nat.le_trans N11.sz hI))
  case hK =>
    rintro i a t1 t2 ⟨Ts, V, ac⟩ N hs nseq
    refine ⟨Ts, N.vf V (ni (side fv lv hs)) (ni (side fdv ldv hs)) (ni (side fln lt7 hs)), ac.nx N (ni (side fx a7.ltx hs)) (ni (side fdx a7.ltd hs)) fun T hT q => ?_⟩
    obtain ⟨j, hj⟩ := List.getElem?_of_mem hT
    have hj' : j < (layZ width room (sortW o words) i).2.2.length := by rw [← ac.len]; exact (List.getElem?_eq_some_iff.mp hj).1
    obtain ⟨t5, t6, oo, e, _, nn, hd⟩ := ac.tup j T _ hj (List.getElem?_eq_getElem hj')
    exact nseq oo (by rw [← List.mem_singleton.mp q]; exact e) _ _ hd
  case h0 => exact fun t1 N => ⟨[], V8.nx N List.not_mem_nil List.not_mem_nil List.not_mem_nil, a8.nx0 N⟩
  case turn =>
    rintro i P hP t1 E₂ F1 ⟨Ts, V, ac⟩ hsz
    have hi : i < (sortW o words).length := by
      have := (List.getElem?_eq_some_iff.mp hP).1
      simpa using this
    have hwd : (sortW o words)[i]? = some (sortW o words)[i] := List.getElem?_eq_getElem hi
    have eP : P = strV (sortW o words)[i] := by
      rw [List.getElem?_map, hwd] at hP
      cases hP; rfl
    subst eP
    have hx := hws _ (List.getElem_mem hi)
    have lb : LB i (layZ width room (sortW o words) i) := layZ_lb hroom (fun x hx => (hws x hx).2) i (Nat.le_of_lt hi)
    refine gen_post fun Q4 E4 hQ4 => wpAny_execs_cons (gen_post fun Q5 E5 hQ5 => wpAny_Expr_any (MethodCall_ ((EV.name (P := isV (.ref v)) : EV w b A₁ _ _ _ _) _ _ _ _ _ _ F1 fun u t2 N2 pu => ?_)))
    cases pu
    refine vf_meth (f := 91) W N2.st (N2.vf V) (callWith_K (K := KK w) (N2.st.k W) (by kernel_rfl) (spliced_more (wpAny_Constant_str (spliced_more ((EV.name (P := strV (sortW o words)[i]) : EV w b A₁ _ _ _ _) _ _ _ _ _ _ ((F1.step N2).step (Nx.refl N2.st).toks) fun u3 t3 N3' p3 => ?_)))))
    obtain ⟨tw, rfl⟩ := p3
    have M := N2.toks.tr N3'
    refine spliced_none ⟨M.st.k W, append_one (k := i) (z := layZ width room (sortW o words) i) W M.st hA₁' (by omega) (by omega) (M.vf V) (ac.nx0 M) D lb (by omega) hx.2 fun t4 Ts' N4 V4 a4 => ?_⟩
    have M4 : Nx b [x, dx, ln] t1 t4 := M.lt0 N4
    rw [← layZ_succ hwd] at V4 a4
    have hside : ∀ a ∈ [x, dx, ln], (s5.heap.objs.size ≤ a ∧ a < s7.heap.objs.size) := fun a ha => by
      simp at ha
      rcases ha with rfl | rfl | rfl
      · exact ⟨fx, a7.ltx⟩
      · exact ⟨fdx, a7.ltd⟩
      · exact ⟨fln, lt7⟩
    have hseq : ∀ a ∈ [x, dx, ln], (a ∈ x :: ln :: B ∨ ∀ o, t1.heap.get? a = some o → ∀ its n, o.data ≠ .seq its n) := fun a ha => by
      simp at ha
      rcases ha with rfl | rfl | rfl
      · exact .inl (.head _)
      · refine .inr fun o e its n hd => ?_
        obtain ⟨_, _, _, e'⟩ := ac.di
        rw [e] at e'; cases e'; cases hd
      · exact .inl (.tail _ (.head _))
    have F4 := F1.stepM M4 fun a ha => ⟨fun hm => absurd (mineLt _ hm) (Nat.not_lt.mpr (up (hside a ha).1)), Nat.le_trans F.nx.sz (up (hside a ha).1), hseq a ha⟩
    refine hQ5 _ _ (wpAny_execs_nil (hQ4 _ _ ?_))
    refine ⟨rfl, F4.sub (fun y P e => ?_), ⟨Ts', V4, a4⟩, _, M4, fun a ha => ⟨hseq a ha, .inl (Nat.lt_of_lt_of_le (hside a ha).2 s78)⟩⟩
    rw [List.lookup_cons]
    split
    · rename_i q
      have q' : y = Str.ofString "word" := by simpa using q
      subst q'
      cases e
    · exact e
  case done =>
    rintro t1 F1 ⟨Ts, V, ac⟩
    rw [List.length_map] at V ac
    have lb : LB (sortW o words).length (layZ width room (sortW o words) (sortW o words).length) := layZ_lb hroom (fun x hx => (hws x hx).2) _ (Nat.le_refl _)
    have ez : layZ width room (sortW o words) (sortW o words).length = layAll width room (sortW o words) := by unfold layZ layAll; rw [List.take_length]
    rw [ez] at V ac lb
    rw [hsl] at lb
    refine hQ3 _ _ ?_
    show wpAny _ _ _ _ _ _
    -- return maker._lines + [str(maker._current_line)]
    refine wpAny_execs_cons (wpAny_Return_some (wpAny_BinOp (Attribute_name ((EV.name (P := isV (.ref v)) : EV w b A₁ _ _ _ _) _ _ _ _ _ _ F1 fun u t2 N2 pu => ?_))))
    cases pu
    refine vf_lines W N2.st (N2.vf V) (List_ (spliced_more (Call_ (nm_bi W N2.st.toks rfl (PyProof.Rows.callWith_type1 (spliced_more (Attribute_name ((EV.name (P := isV (.ref v)) : EV w b A₁ _ _ _ _) _ _ _ _ _ _ ((F1.step N2).step (Nx.refl N2.st).toks) fun u3 t3 N3' pu3 => ?_))))))))
    cases pu3
    have M := N2.toks.tr N3'
    have sm : Small (layAll width room (sortW o words)).2.1 (layAll width room (sortW o words)).2.2 := ⟨lb.n.1, lb.n.2, Nat.le_trans lb.p (by decide), lb.s⟩
    refine vf_line W M.st (M.vf V) (spliced_none (str_acc W M.st.toks hA₁' (by omega) (Nat.lt_of_le_of_lt (show A₁.units + 2 ≤ 400 by omega) (by decide)) (ac.nx0 M.toks) sm fun t4 tk N4 => spliced_none ?_))
    refine wpAny_newObj_type ?_ (by size_fits)
    have M4 := M.toks.tr N4
    have M5 := M4.tr (Nx.push M4.st (o := { cls := .type "list", data := .seq [Value.str (ptext (layAll width room (sortW o words)).2.2) tk].toArray }))
    obtain ⟨its, ⟨⟨oc, od, odt, osl⟩, nl, el, rfl, rfl, rfl⟩, hr⟩ := (M5.vf V).ls
    have enew := Heap.get?_push_size (h := t4.heap) (o := { cls := .type "list", data := .seq [Value.str (ptext (layAll width room (sortW o words)).2.2) tk].toArray }) rfl
    have hil : its.size = (layAll width room (sortW o words)).1.length := by have := StrsAre.len_eq hr; simpa using this
    refine concat_meets ⟨_, el, rfl⟩ ⟨_, enew, rfl⟩ noFill_list_add seq_list_add PySem.F.slot_list_add PySem.F.entry_list_add (PySem.F.args_list_add_2 _ _) (list_addW ln _ its _ nl _ none none _ _ (by rw [hil]; have := lb.r; simp; rw [sizeLine_eq]; omega)) ⟨el, enew, ?_⟩
    have M6 := (F1.nx.tr M5).tr ((Nx.push M5.st (o := { cls := Value.type "list", data := Data.seq (its ++ [Value.str (ptext (layAll width room (sortW o words)).2.2) tk].toArray) })).toks (k := t4.toks))
    refine r1 _ _ (hq _ _ M6 ⟨_, _, rfl, M5.st.lt W, fun q => ?_, ⟨0, Heap.get?_push_size _ rfl⟩, AllR.ofStrs ?_⟩)
    · have h1 := lB _ q
      exact absurd h1 (Nat.not_lt.mpr (F1.nx.tr M5).sz)
    · have := strsAre_snoc hr (ptext (layAll width room (sortW o words)).2.2) tk
      simpa [layRows] using this
end
end Mine
end -- C30
section -- C31
/-! C31: iter(list), next(it) -/
set_option maxRecDepth 100000
namespace Mine
open PySem PySem.W PySem.Calls PyProof.Rows Builtin
set_option maxHeartbeats 1000000
section
variable {w : World} {A : Around} {E : Value → Shared → Prop} {s s₀ : Shared} {b : Heap} {mg mb : Str → Option Value} {bm : Addr} {ob : Obj} {env : Env} {B : List Addr} {O : List Str} {G : List (Str × VP)}

noncomputable def JL (I a : Addr) (its : Array Value) (Ps : List VP) (B : List Addr) (i : Nat) (h : Heap) : Prop := h.IsListIter I a i ∧ a ∉ B ∧ h.PlainList a its ∧ AllR B h Ps its.toList
theorem Itr.list {Ps : List VP} {I a : Addr} {its : Array Value} (g : 232 < a) (gI : 232 < I) (fI : b.get? I = none) (hne : a ≠ I) (len : its.size = Ps.length) : Itr w b I Ps (JL I a its Ps) := by
  have W := fun (A : Around) (hA : A.handled = none) => Walks.list (prog := PW) (w := w) hA I a hne its
  refine ⟨?_, ?_, ?_, gI, ?_, ?_, ?_, ?_⟩
  · rintro B i h d hd ⟨h1, h2, ⟨n', h3⟩, h4⟩
    exact ⟨h1, fun q => by rcases List.mem_cons.mp q with q | q; (rw [q, hd] at h3; cases h3); exact h2 q, ⟨n', h3⟩, h4.mp fun P v x => P.ext hd x⟩
  · rintro B i s1 s2 X ⟨⟨o, e, r1⟩, h2, ⟨n', h3⟩, h4⟩ N hI hX
    have M : Mv b B s1 s2 := ⟨X, N, hX⟩
    exact ⟨⟨o, N.kp _ _ (notab_of gI) hI e, r1⟩, h2, ⟨n', M.seq g h2 h3 rfl⟩, h4.st M⟩
  · rintro B i h ⟨⟨o, e, hc, hd⟩, _⟩
    exact ⟨o, e, _, hd⟩
  · rintro A B i P s1 Q E hA hP st1 ⟨h1, h2, ⟨n', h3⟩, h4⟩ hq
    have hi : i < its.size := by rw [len]; exact (List.getElem?_eq_some_iff.mp hP).1
    refine wpAny_size (Nat.le_refl _) ((W A hA).item i s1 _ _ hi ⟨h1, _, h3, rfl, n', rfl⟩ fun v h' tk hv st' hk hsz => ?_)
    have N : Nx b [I] s1 { s1 with heap := h', toks := tk } := Nx.of1 (X := []) st1 (fun c o hc e => hk c o hc e) gI fI hsz (nc_listiter h1)
    have M : Mv b B s1 { s1 with heap := h', toks := tk } := Mv.of1 N fun o e its' n'' hd => by
      obtain ⟨o', e', _, hd'⟩ := h1
      rw [e] at e'; cases e'; rw [hd] at hd'; cases hd'
    have h4' := h4.st M
    obtain ⟨v', e1, p1⟩ := h4'.get hP
    rw [Array.getElem?_toList, hv] at e1
    cases e1
    exact hq v _ N ⟨st'.1, h2, ⟨n', M.seq g h2 h3 rfl⟩, h4'⟩ p1
  · rintro A B s1 Q E hA st1 ⟨h1, h2, ⟨n', h3⟩, h4⟩ hq
    rw [← len] at h1
    refine wpAny_size (Nat.le_refl _) ((W A hA).done s1 _ _ ⟨h1, _, h3, rfl, n', rfl⟩ fun h' tk hk hsz => ?_)
    exact hq _ (Nx.of1 (X := []) st1 (fun c o hc e => hk c o hc e) gI fI hsz (nc_listiter h1))
  · rintro A B i s1 Q E ⟨h1, _⟩ hq
    exact wpAny_pyIter_listiter h1 hq
  · rintro B i h A Q E s1 t v ⟨⟨o, e, hc, hd⟩, _⟩ he hq
    rw [← he] at e
    exact letGo_plain e hc (by decide) hq
theorem Itr.shift {I : Addr} {P : VP} {Ps : List VP} {J : List Addr → Nat → Heap → Prop} (it : Itr w b I (P :: Ps) J) : Itr w b I Ps (fun B i h => J B (i + 1) h) where
  ext := fun hd h => it.ext hd h
  frame := fun h N hI hX => it.frame h N hI hX
  live := fun h => it.live h
  gI := it.gI
  item := fun hA hP st h hq => it.item hA (by simpa using hP) st h hq
  done := fun hA st h hq => it.done hA st (by simpa using h) hq
  self := fun h hq => it.self h hq
  nolet := fun h he hq => it.nolet h he hq

theorem kind_iterB : builtinKind "iter" = none := by decide +kernel
theorem plain_iterB : plainId "iter" = true := by decide +kernel
theorem kind_nextB : builtinKind "next" = none := by decide +kernel
theorem plain_nextB : plainId "next" = true := by decide +kernel
theorem call_iter {x : Value} {Q : Value → Shared → Prop} (h : wpAny (model PW w) A.in1 (pyIter x) Q E s) : wpAny (model PW w) A (call (.builtin "iter") [x]) Q E s := by
  refine call_function_entry kind_iterB plain_iterB kdk_entry_iter (kdk_args_iter _) ?_
  unfold Builtin.«iter»
  refine wpAny_bind (m := someArgs "iter" 1 2 _) (wpAny_of_eq (a := [x]) (by first | rfl | kernel_rfl) ?_)
  show wpAny _ _ (pyIter x >>= _) _ _ _
  exact wpAny_bind (wpAny_mono h (fun v s' hv => wpAny_pure ⟨_, rfl, hv⟩) fun _ _ e => e)
theorem call_next_list {it l : Addr} {i : Nat} {items : Array Value} {x : Value} {Q : Value → Shared → Prop} (hit : s.heap.IsListIter it l i) (hl : s.heap.IsList l items) (hx : items[i]? = some x)
    (hQ : ∀ h', h'.IsListIter it l (i + 1) → Heap.SameBut it s.heap h' → Q x { s with heap := h' }) : wpAny (model PW w) A (call (.builtin "next") [.ref it]) Q E s := by
  refine call_function_entry kind_nextB plain_nextB kdk_entry_next (kdk_args_next _) ?_
  unfold Builtin.«next»
  refine wpAny_bind (m := someArgs "next" 1 2 _) (wpAny_of_eq (a := [.ref it]) (by first | rfl | kernel_rfl) ?_)
  refine wpAny_bind (wpAny_specialOf (name := Str.ofString "__next__") hit.typeIs slot_listiter_next.lookup ?_)
  refine wpAny_ifF rfl ?_
  obtain ⟨o, ho, hc, hd⟩ := id hit
  obtain ⟨ol, hol, _, nl, hdl⟩ := hl
  refine wpAny_bind (wpAny_callSpecial?_slot (name := Str.ofString "__next__") hit.typeIs slot_listiter_next
    (wpAny_call_entry slot_listiter_next hit.typeIs entry_listiter_next ?_ (args_listiter_next _)))
  show wpAny _ _ (field (.ref it) 0 >>= _) _ _ s
  refine wpAny_bind (wpAny_field ho hd (x := .ref l) rfl ?_)
  show wpAny _ _ (if (Value.ref l == Value.none) = true then _ else _) _ _ s
  rw [if_neg (show ¬ ((Value.ref l == Value.none) = true) from Bool.false_ne_true)]
  show wpAny _ _ (field (.ref it) 1 >>= _) _ _ s
  refine wpAny_bind (wpAny_field ho hd (x := .int i 0) rfl ?_)
  show wpAny _ _ (seqItems? (.ref l) >>= _) _ _ s
  refine wpAny_bind (wpAny_seqItems hol hdl ?_)
  simp only [Int.toNat_natCast, hx]
  refine wpAny_bind (wpAny_setField ho hd (by simp) (wpAny_pure ⟨x, rfl, wpAny_pure ⟨x, rfl, hQ _ ?_ (Heap.SameBut.update ..)⟩⟩))
  exact ⟨_, Heap.get?_update_self _ ho (Obj.isFreed_of_fields (Obj.data_mapFields hd _)), (Obj.cls_mapFields ..).trans hc, by
    rw [Obj.data_mapFields hd]; simp [rawInt]⟩
end
end Mine
end -- C31
section -- C32
/-! C32: reduce, with the two lambdas of law -/
set_option maxRecDepth 100000
namespace Mine
open PySem PySem.W PySem.Calls PyProof.Rows Builtin
set_option maxHeartbeats 1000000
section
variable {w : World} {A : Around} {E : Value → Shared → Prop} {s s₀ : Shared} {b : Heap} {mg mb : Str → Option Value} {bm : Addr} {ob : Obj} {env : Env} {B : List Addr} {O : List Str} {G : List (Str × VP)}

noncomputable abbrev scLam2 : Scope := ⟨.function, [(Str.ofString "one", .local), (Str.ofString "other", .local)], false, false, []⟩
noncomputable abbrev cmpOf (lt : Bool) : CmpOp := match lt with | true => .Lt | false => .Gt
noncomputable abbrev bdLam2 (lt : Bool) (p1 p2 p3 p4 p5 p6 : Pos) : Expr := .IfExp (.Compare (.Name (Str.ofString "other") p1) [cmpOf lt] [.Name (Str.ofString "one") p2] p3) (.Name (Str.ofString "other") p4) (.Name (Str.ofString "one") p5) p6
noncomputable def opOf (lt : Bool) (x y : Int) : Int := if (match lt with | true => decide (y < x) | false => decide (x < y)) then y else x
structure Lam2 (h : Heap) (fl : Addr) (lt : Bool) : Prop where
  ex : ∃ (name qual : Str) (pm ctv : Value) (c' : Addr) (px py p1 p2 p3 p4 p5 p6 : Pos), h.get? fl = some (kla_obj name qual (args2 (Str.ofString "one") (Str.ofString "other") px py) (bdLam2 lt p1 p2 p3 p4 p5 p6) scLam2 [] pm c' ctv) ∧ h.CodeRec (.ref c') qual ∧ 232 < c' ∧ 232 < fl
theorem Lam2.lt {h : Heap} {fl : Addr} {lt : Bool} (L : Lam2 h fl lt) : fl < h.objs.size := by
  obtain ⟨_, _, _, _, _, _, _, _, _, _, _, _, _, e, _⟩ := L.ex
  exact Heap.lt_size e
theorem Lam2.nxX {s s' : Shared} {X : List Addr} {fl : Addr} {lt : Bool} (L : Lam2 s.heap fl lt) (N : Nx b X s s') (hX : ∀ a ∈ X, fl ≠ a ∧ NC s.heap a) : Lam2 s'.heap fl lt := by
  obtain ⟨name, qual, pm, ctv, c', px, py, p1, p2, p3, p4, p5, p6, e, r, gc, gf⟩ := L.ex
  refine ⟨name, qual, pm, ctv, c', px, py, p1, p2, p3, p4, p5, p6, N.kp _ _ (notab_of gf) (fun h => (hX _ h).1 rfl) e, ?_, gc, gf⟩
  obtain ⟨o', g', hcd⟩ := rec_codey r
  obtain ⟨c, o, vs, t, e', g, d, r⟩ := r
  cases e'
  rw [g] at g'; cases g'
  exact ⟨_, _, vs, t, rfl, N.kp _ _ (notab_of gc) (fun h => by have := (hX _ h).2 _ g; rw [hcd] at this; cases this) g, d, r⟩
theorem Lam2.nx {s s' : Shared} {fl : Addr} {lt : Bool} (L : Lam2 s.heap fl lt) (N : Nx b [] s s') : Lam2 s'.heap fl lt := L.nxX N (fun _ h => nomatch h)
theorem Lam2.fn {h : Heap} {fl : Addr} {lt : Bool} (L : Lam2 h fl lt) : FnAt fl h := by
  obtain ⟨name, qual, pm, ctv, c', px, py, p1, p2, p3, p4, p5, p6, e, r, gc, gf⟩ := L.ex
  exact ⟨_, _, _, _, e⟩

theorem lam2_call {fl : Addr} {lt : Bool} {x y : Int} {t1 t2 : Tok} {Q : Value → Shared → Prop} (W : WW w b mg mb bm ob) (st : St b s) (hD : A.depth < 900) (L : Lam2 s.heap fl lt)
    (h : ∀ t s', Nx b [] s s' → Q (.int (opOf lt x y) t) s') : wpAny (model PW w) A (call (.ref fl) [.int x t1, .int y t2]) Q E s := by
  obtain ⟨name, qual, pm, ctv, c', px, py, p1, p2, p3, p4, p5, p6, e, r, gc, gf⟩ := L.ex
  refine wpAny_call (kla_callFunE (Nat.lt_trans hD (by decide)) e rfl rfl rfl rfl r ?_)
  refine wpAny_of_eq (show bindArgs _ ⟨[.int x t1, .int y t2], []⟩ = pure ([Str.ofString "one", Str.ofString "other"].zip [.int x t1, .int y t2]) from rfl) ?_
  refine wpAny_newFunctionEnv (by intro z hz; simp at hz; rcases hz with rfl | rfl <;> decide) (by intro z hz; simp at hz; rcases hz with rfl | rfl <;> rfl) (fun h₀ hns hsb => ⟨(st.lim W).fresh _ hsb, ?_⟩) rfl
  have hk₀ : ∀ b o, s.heap.get? b = some o → h₀.get? b = some o := fun b o e => hsb.extBut b o (Nat.ne_of_lt (Heap.lt_size e)) (Heap.get?_push_of_some _ e)
  have F := frameH (B := []) (fd := kla_fn name qual (args2 (Str.ofString "one") (Str.ofString "other") px py) (bdLam2 lt p1 p2 p3 p4 p5 p6) scLam2 [] pm (.ref c') ctv) (ns := [Str.ofString "one", Str.ofString "other"]) (Ps := [intV x, intV y]) (vs := [.int x t1, .int y t2]) (f := fl) (h₀ := h₀) (GC := []) W st (fun _ h => nomatch h) ⟨⟨_, rfl⟩, ⟨_, rfl⟩, trivial⟩ rfl rfl (rev2 (by decide)) (by intro z hz; simp at hz; rcases hz with rfl | rfl <;> rfl)
    (fun y c e => by cases e) (fun z P e => by cases e) rfl hns hk₀
  refine kla_codeExpr ?_
  have ev : ∀ {A' : Around}, EV w b A' (callEnv (kla_fn name qual (args2 (Str.ofString "one") (Str.ofString "other") px py) (bdLam2 lt p1 p2 p3 p4 p5 p6) scLam2 [] pm (.ref c') ctv) s.heap.objs.size fl)
      ([Str.ofString "one", Str.ofString "other"].zip [intV x, intV y] ++ []) (bdLam2 lt p1 p2 p3 p4 p5 p6) (intV (opOf lt x y)) := fun {A'} => by
    cases lt with
    | true =>
      refine EV.ite (P1 := noneV) (P2 := noneV) (TV.lt (i := y) (j := x) .name .name) (fun e => ?_) (fun e => ?_)
      · rw [show opOf true x y = y by unfold opOf; simp only; rw [e]; rfl]; exact .name
      · rw [show opOf true x y = x by unfold opOf; simp only; rw [e]; rfl]; exact .name
    | false =>
      refine EV.ite (P1 := noneV) (P2 := noneV) (TV.gt (i := y) (j := x) .name .name) (fun e => ?_) (fun e => ?_)
      · rw [show opOf false x y = y by unfold opOf; simp only; rw [e]; rfl]; exact .name
      · rw [show opOf false x y = x by unfold opOf; simp only; rw [e]; rfl]; exact .name
  exact ev [] [] _ _ _ _ F fun v s' N ⟨t, e⟩ => by subst e; exact h t s' (F.nx.tr N)

theorem rev3 {a b c : Str} {u v z : Value} (h1 : (b == a) = false) (h2 : (c == a) = false) (h3 : (c == b) = false) : ∀ x y, ([a, b, c].zip [u, v, z]).lookup x = some y → ([a, b, c].zip [u, v, z]).reverse.lookup x = some y := fun x y e => by
  show List.lookup x [(c, z), (b, v), (a, u)] = some y
  have e' : List.lookup x [(a, u), (b, v), (c, z)] = some y := e
  simp only [List.lookup_cons, List.lookup_nil] at e' ⊢
  have sw : ∀ {p q : Str}, (q == p) = false → (x == p) = true → (x == q) = false := fun {p q} h hx => by
    have : x = p := by simpa using hx
    subst this
    cases r : x == q with
    | false => rfl
    | true => rw [show x = q by simpa using r] at h; simp at h
  cases q1 : x == a with
  | true => rw [sw h2 q1, sw h1 q1]; rw [q1] at e'; exact e'
  | false =>
    rw [q1] at e'
    cases q2 : x == b with
    | true => rw [sw h3 q2]; rw [q2] at e'; exact e'
    | false =>
      rw [q2] at e'
      cases q3 : x == c with
      | true => rw [q3] at e'; exact e'
      | false => rw [q3] at e'; exact e'
end
end Mine
end -- C32
section -- C33
/-! C33: reduce(lambda, ints) -/
set_option maxRecDepth 100000
namespace Mine
open PySem PySem.W PySem.Calls PyProof.Rows Builtin
set_option maxHeartbeats 1000000
section
variable {w : World} {A : Around} {E : Value → Shared → Prop} {s s₀ : Shared} {b : Heap} {mg mb : Str → Option Value} {bm : Addr} {ob : Obj} {env : Env} {B : List Addr} {O : List Str} {G : List (Str × VP)}

theorem Nx.noI {I : Addr} {s s' s'' : Shared} {X : List Addr} (x : Nx b X s s') (y : Nx b [I] s' s'') (h : s.heap.objs.size ≤ I) : Nx b X s s'' := x.trans y (fun _ h => .inl h) (fun c hc => .inr (by rw [List.mem_singleton.mp hc]; exact h))

theorem nsI {I l : Addr} {h : Heap} {i : Nat} (hit : h.IsListIter I l i) : ∀ o, h.get? I = some o → ∀ its n, o.data ≠ .seq its n := fun o e its n hd => by
  obtain ⟨o', e', _, hd'⟩ := hit
  rw [e] at e'; cases e'; rw [hd] at hd'; cases hd'
theorem Fm.stepI {I l : Addr} {i : Nat} {s' : Shared} (F : Fm b O B env s₀ G s) (hit : s.heap.IsListIter I l i) (N : Nx b [I] s s') (hI : s₀.heap.objs.size ≤ I) : Fm b O B env s₀ G s' := by
  obtain ⟨o', e', _, hd'⟩ := id hit
  exact F.stepX N fun a ha => by rw [List.mem_singleton.mp ha]; exact ⟨not_wr_fields e' hd', hI, .inr (nsI hit)⟩
theorem enterH {f : Addr} {fd : FuncData} {body : List Stmt} {args : List Value} {ns : List Str} {Ps : List VP} {vs : List Value} {cls : Value} {dd : Option Addr} {sl : Array (Option Value)} {Q : Value → Shared → Prop}
    (W : WW w b mg mb bm ob) (st : St b s) (lB : ∀ d ∈ B, d < s.heap.objs.size) (ar : AllR B s.heap Ps vs) (hD : A.depth < recursionLimit) (hK : (KK w).lookup f = some ⟨cls, dd, .func fd, sl⟩) (hbody : fd.body = .stmts body) (hcd : codeIn (KK w) fd.code fd.qualname = true)
    (hgl : fd.globals = mainGlobals) (hbl : fd.builtins = builtinsNs) (hclo : fd.closure = []) (hbind : BindsTo s fd ⟨args, []⟩ (ns.zip vs)) (hrev : ∀ x v, (ns.zip vs).lookup x = some v → (ns.zip vs).reverse.lookup x = some v) (hcell : ∀ x ∈ fd.scope.names, x.2 ≠ .cell) (hloc : ∀ x ∈ ns, fd.scope.names.lookup x = some .local)
    (h : ∀ A₁ s₁ E' L, A₁.handled = A.handled → A₁.depth = A.depth + 1 → A₁.units = A.units + 3 → L = s.heap.objs.size → Fm b [] B (callEnv fd L f) s (ns.zip Ps ++ []) s₁ →
      wpAny (model PW w) A₁ (execs body (callEnv fd L f)) (fun fl s' => Q (match fl with | .ret v => v | _ => .none) s') E' s₁)
    (hco : fd.scope.isCoroutine = false := by rfl) (hgen : fd.scope.isGenerator = false := by rfl) (hk : fd.scope.kind = .function := by rfl) :
    wpAny (model PW w) A (call (.ref f) args) Q E s := by
  refine wpAny_call (codeAny_call_def (fd := fd) (body := body) hD (st.k W _ _ hK) rfl (st.lim W) (codeRec_of (st.k W) hcd) hbody hbind hcell (fun x hx => hloc x.1 (List.of_mem_zip hx).1) (fun h₀ hns hk₀ => ?_) hco hgen hk)
  exact h _ _ _ _ rfl rfl rfl rfl (frameH W st lB ar hgl hbl hrev hloc (fun y c e => by rw [hclo] at e; cases e) (fun z P e => by cases e) hk hns hk₀)

theorem reduce_call {f l : Addr} {lt : Bool} {x : Int} {xs : List Int} {Q : Value → Shared → Prop} (W : WW w b mg mb bm ob) (st : St b s) (hA : A.handled = none) (hD : A.depth < 700) (hlB : ∀ d ∈ B, d < s.heap.objs.size) (L2 : Lam2 s.heap f lt) (hl : (intsV (x :: xs)).p B (.ref l) s.heap) (h16 : xs.length ≤ 100000)
    (h : ∀ t s', Nx b [] s s' → Q (.int (xs.foldl (opOf lt) x) t) s') : wpAny (model PW w) A (call (.ref 198) [.ref f, .ref l]) Q E s := by
  have ar : AllR B s.heap [isV (.ref f), intsV (x :: xs), isV (.ref 190)] [.ref f, .ref l, .ref 190] := ⟨rfl, hl, rfl, trivial⟩
  refine enterH (f := 198) (ns := [Str.ofString "function", Str.ofString "sequence", Str.ofString "initial"]) W st hlB ar (Nat.lt_trans hD (by decide)) rfl rfl (by kernel_rfl) rfl rfl rfl (binds_K (st.k W) rfl rfl rfl rfl rfl) (rev3 (by decide) (by decide) (by decide)) (by decide) (by intro z hz; simp at hz; rcases hz with rfl | rfl | rfl <;> rfl) fun A₁ s₁ E' L hA₁ hD₁ hU₁ hL F => ?_
  subst hL
  have hA₁' := hA₁.trans hA
  have L2' := L2.nx F.nx
  have fL : f ≠ s.heap.objs.size := Nat.ne_of_lt L2.lt
  -- it = iter(sequence)
  refine wpAny_execs_cons (gen_post fun Q1 E1 hQ1 => wpAny_Assign_Name (Call_ (nm_bi W F.st rfl (PyProof.Rows.callWith_builtin1 (spliced_more ((EV.name (P := intsV (x :: xs)) : EV w b _ _ _ _ _) _ _ _ _ _ _ F fun v1 s1 N1 p1 => spliced_none ?_))))))
  obtain ⟨l', its, rfl, gl, hB, ⟨nl, hp⟩, r⟩ := p1
  have F1 := F.step N1
  have hll := Heap.lt_size hp
  refine call_iter (wpAny_pyIter_list ⟨_, hp, rfl, nl, rfl⟩ ?_)
  have NP := Nx.push N1.st (o := { cls := .type "list_iterator", data := .fields #[.ref l', .int 0 0] })
  have F2 := F1.step NP
  have gI : 232 < s1.heap.objs.size := N1.st.lt W
  have fI : b.get? s1.heap.objs.size = none := N1.st.fresh (Nat.le_refl _)
  have hil : its.size = (x :: xs).length := by have := r.len; simpa using this
  have it := Itr.list (w := w) (b := b) (Ps := (x :: xs).map intV) gl gI fI (Nat.ne_of_lt hll) (by simpa using hil)
  have j0 : JL s1.heap.objs.size l' its ((x :: xs).map intV) B 0 (s1.heap.push { cls := .type "list_iterator", data := .fields #[.ref l', .int 0 0] }) := ⟨⟨_, Heap.get?_push_size _ rfl, rfl, rfl⟩, hB, ⟨nl, Heap.get?_push_of_some _ hp⟩, r.st (Mv.of0 NP)⟩
  generalize hI : s1.heap.objs.size = I at *
  have sI : s.heap.objs.size < I := by
    obtain ⟨m, hn, _⟩ := F.vars
    rw [← hI]
    exact Nat.lt_of_lt_of_le hn.lt N1.sz
  have IL : I ≠ s.heap.objs.size := Nat.ne_of_gt sI
  obtain ⟨m2, hn2, _⟩ := F2.vars
  have L22 := (L2'.nx N1).nx NP
  refine F2.setL (P := isV (.ref I)) rfl (fun s3 N3 M3 F3 => ?_)
  have j3 := it.frame j0 N3 (ni IL) (fun c hc => .inr (by rw [List.mem_singleton.mp hc]; exact ns_noseq hn2))
  have L23 := L22.nxX N3 (fun a ha => by rw [List.mem_singleton.mp ha]; exact ⟨fL, NC.ns hn2⟩)
  refine hQ1 _ _ ?_
  show wpAny _ _ _ _ _ _
  -- if initial is _initial_missing
  refine wpAny_execs_cons (gen_post fun Q2 E2 hQ2 => wpAny_If (wpAny_isTrue_Compare1 ((EV.name (P := isV (.ref 190)) : EV w b _ _ _ _ _) _ _ _ _ _ _ F3 fun v4 s4 N4 p4 => nm_glob (v := .ref 190) W N4.st ?_ (by kernel_rfl) rfl rfl rfl (by decide))))
  cases p4
  refine wpAny_is_ref_self (wpAny_truthy_bool ?_)
  rw [if_pos rfl]
  have F4 := F3.step N4
  have j4 := it.frame j3 N4 List.not_mem_nil (fun _ h => nomatch h)
  have L24 := L23.nx N4
  -- try: value = next(it)
  refine wpAny_execs_cons (gen_post fun Q3 E3 hQ3 => wpAny_Try_except (wpAny_execs_cons (gen_post fun Q4 E4 hQ4 => wpAny_Assign_Name (Call_ (nm_bi W F4.st rfl (PyProof.Rows.callWith_builtin1 (spliced_more ((EV.name (P := isV (.ref I)) : EV w b _ _ _ _ _) _ _ _ _ _ _ F4 fun v5 s5 N5 p5 => spliced_none ?_))))))))
  cases p5
  have F5 := F4.step N5
  have j5 := it.frame j4 N5 List.not_mem_nil (fun _ h => nomatch h)
  have L25 := L24.nx N5
  obtain ⟨hit, hB5, ⟨n5, hp5⟩, r5⟩ := j5
  obtain ⟨v0, hv0, t0, rfl⟩ := r5.get (i := 0) (P := intV x) rfl
  refine wpAny_size (Nat.le_refl _) (call_next_list hit ⟨_, hp5, rfl, n5, rfl⟩ (by rw [← Array.getElem?_toList]; exact hv0) fun h6 hit6 hs6 hz6 => ?_)
  have N6 : Nx b [I] s5 { s5 with heap := h6, toks := s5.toks } := Nx.of1 (X := []) N5.st (fun c o hc e => hs6.extBut c o (fun q => hc (List.mem_singleton.mpr q)) e) gI fI hz6 (nc_listiter hit)
  have F6 := F5.stepI hit N6 (Nat.le_of_lt sI)
  have j6 : JL I l' its ((x :: xs).map intV) B 1 h6 := by
    have M : Mv b B s5 { s5 with heap := h6, toks := s5.toks } := Mv.of1 N6 (nsI hit)
    exact ⟨hit6, hB5, ⟨n5, M.seq gl hB5 hp5 rfl⟩, r5.st M⟩
  have L26 := L25.nxX N6 (fun a ha => by rw [List.mem_singleton.mp ha]; exact ⟨fun q => absurd L2.lt (Nat.not_lt.mpr (by rw [q]; exact Nat.le_of_lt sI)), nc_listiter hit⟩)
  have fI' : f ≠ I := fun q => absurd L2.lt (Nat.not_lt.mpr (by rw [q]; exact Nat.le_of_lt sI))
  obtain ⟨m6, hn6, _⟩ := F6.vars
  refine F6.setL (P := intV x) ⟨t0, rfl⟩ (fun s7 N7 M7 F7 => ?_)
  have j7 := it.frame j6 N7 (ni IL) (fun c hc => .inr (by rw [List.mem_singleton.mp hc]; exact ns_noseq hn6))
  have L27 := L26.nxX N7 (fun a ha => by rw [List.mem_singleton.mp ha]; exact ⟨fL, NC.ns hn6⟩)
  refine hQ4 _ _ (wpAny_execs_nil ?_)
  show wpAny _ _ _ _ _ _
  refine wpAny_execs_nil (hQ3 _ _ ?_)
  show wpAny _ _ _ _ _ _
  refine wpAny_execs_nil (hQ2 _ _ ?_)
  show wpAny _ _ _ _ _ _
  -- for element in it: value = function(value, element)
  have its := Itr.shift it
  refine wpAny_execs_cons (gen_post fun Q5 E5 hQ5 => wpAny_For ((EV.name (P := isV (.ref I)) : EV w b _ _ _ _ _) _ _ _ _ _ _ F7 fun v8 s8 N8 p8 => ?_))
  cases p8
  have F8 := F7.step N8
  have j8 := it.frame j7 N8 List.not_mem_nil (fun _ h => nomatch h)
  have L28 := L27.nx N8
  refine its.self j8 ?_
  refine codeAny_forLoop (fun n s' => ∃ i, n = xs.length + 1 - i ∧ i ≤ xs.length ∧ Fm b [] B _ s ((Str.ofString "value", intV ((xs.take i).foldl (opOf lt) x)) :: (Str.ofString "it", isV (.ref I)) :: ([Str.ofString "function", Str.ofString "sequence", Str.ofString "initial"].zip [isV (.ref f), intsV (x :: xs), isV (.ref 190)] ++ [])) s' ∧ JL I l' _ ((x :: xs).map intV) B (i + 1) s'.heap ∧ Lam2 s'.heap f lt) ?_ (xs.length + 1)
    ⟨0, rfl, Nat.zero_le _, F8, j8, L28⟩
  rintro n t1 ⟨i, rfl, hi, F1', j1, L1⟩
  by_cases hlt : i < xs.length
  · have hP : (xs.map intV)[i]? = some (intV xs[i]) := by rw [List.getElem?_map, List.getElem?_eq_getElem hlt]; rfl
    refine its.item hA₁' hP F1'.st j1 fun v2 t2 N2' j2 p2 => ?_
    have F2' := F1'.stepI j1.1 N2' (Nat.le_of_lt sI)
    have L2'' := L1.nxX N2' (fun a ha => by rw [List.mem_singleton.mp ha]; exact ⟨fI', nc_listiter j1.1⟩)
    obtain ⟨m2', hn2', _⟩ := F2'.vars
    refine wpAny_assign_Name (F2'.setL p2 (fun t3 N3' M3' F3' => ?_))
    have j3' := it.frame j2 N3' (ni IL) (fun c hc => .inr (by rw [List.mem_singleton.mp hc]; exact ns_noseq hn2'))
    have L3' := L2''.nxX N3' (fun a ha => by rw [List.mem_singleton.mp ha]; exact ⟨fL, NC.ns hn2'⟩)
    refine gen_post fun Q6 E6 hQ6 => wpAny_execs_cons (gen_post fun Q7 E7 hQ7 => wpAny_Assign_Name (Call_ ((EV.name (P := isV (.ref f)) : EV w b _ _ _ _ _) _ _ _ _ _ _ F3' fun u4 t4 N4' p4 => ?_)))
    cases p4
    refine callWith_F (L3'.nx N4').fn (spliced_more ((EV.name (P := intV ((xs.take i).foldl (opOf lt) x)) : EV w b _ _ _ _ _) _ _ _ _ _ _ (F3'.step N4') fun u5 t5 N5' p5 => spliced_more ((EV.name (P := intV xs[i]) : EV w b _ _ _ _ _) _ _ _ _ _ _ ((F3'.step N4').step N5') fun u6 t6 N6' p6 => ?_)))
    obtain ⟨k5, rfl⟩ := p5
    obtain ⟨k6, rfl⟩ := p6
    have M := (N4'.tr N5').tr N6'
    refine spliced_none ⟨(L3'.nx M).fn, lam2_call W M.st (by omega) (L3'.nx M) fun tk t7 N7' => ?_⟩
    have M7' := M.tr N7'
    have F7' := F3'.step M7'
    obtain ⟨m7', hn7', _⟩ := F7'.vars
    refine F7'.setL (P := intV (opOf lt ((xs.take i).foldl (opOf lt) x) xs[i])) ⟨tk, rfl⟩ (fun t8 N8' M8' F8' => ?_)
    have j8' := it.frame (it.frame j3' M7' List.not_mem_nil (fun _ h => nomatch h)) N8' (ni IL) (fun c hc => .inr (by rw [List.mem_singleton.mp hc]; exact ns_noseq hn7'))
    have L8' := (L3'.nx M7').nxX N8' (fun a ha => by rw [List.mem_singleton.mp ha]; exact ⟨fL, NC.ns hn7'⟩)
    have e : (xs.take (i + 1)).foldl (opOf lt) x = opOf lt ((xs.take i).foldl (opOf lt) x) xs[i] := by
      rw [List.take_add_one, List.getElem?_eq_getElem hlt, List.foldl_append]; rfl
    refine hQ7 _ _ (wpAny_execs_nil (hQ6 _ _ ⟨xs.length + 1 - (i + 1), sub_step hlt, i + 1, rfl, hlt, ?_, j8', L8'⟩))
    rw [e]
    refine F8'.sub fun y P hy => ?_
    rw [List.lookup_cons] at hy ⊢
    split at hy
    · exact hy
    · rename_i q1
      rw [List.lookup_cons]
      split
      · rename_i q2
        have : y = Str.ofString "element" := by simpa using q2
        subst this
        cases hy
      · rw [List.lookup_cons, q1]
        exact hy
  · have hie : i = xs.length := by omega
    subst hie
    refine its.done hA₁' F1'.st (by rw [List.length_map]; exact j1) fun t2 N2' => wpAny_execs_nil (hQ5 _ _ ?_)
    show wpAny _ _ _ _ _ _
    have F2' := F1'.stepI j1.1 N2' (Nat.le_of_lt sI)
    rw [List.take_length] at F2'
    refine wpAny_execs_cons (wpAny_Return_some ((EV.name (P := intV (xs.foldl (opOf lt) x)) : EV w b _ _ _ _ _) _ _ _ _ _ _ F2' fun v3 t3 N3' p3 => ?_))
    obtain ⟨tk, rfl⟩ := p3
    exact h tk t3 (F2'.nx.tr N3')
end
end Mine
end -- C33
section -- C34
/-! C34: reduce(lambda one, other: .., counts) in law -/
set_option maxRecDepth 100000
namespace Mine
open PySem PySem.W PySem.Calls PyProof.Rows Builtin
set_option maxHeartbeats 1000000
section
variable {w : World} {A : Around} {E : Value → Shared → Prop} {s s₀ : Shared} {b : Heap} {mg mb : Str → Option Value} {bm : Addr} {ob : Obj} {env : Env} {B : List Addr} {O : List Str} {G : List (Str × VP)}

theorem law_reduce {lt : Bool} {x : Int} {xs : List Int} {p0 px py p1 p2 p3 p4 p5 p6 pc p7 pos : Pos} (W : WW w b mg mb bm ob) (hA : A.handled = none) (hD : A.depth < 700)
    (hG : G.lookup (Str.ofString "counts") = some (intsV (x :: xs))) (h16 : xs.length ≤ 100000) (hcl : closureFor scLam2 env = pure []) (hcode : env.code = .ref 231) (hq : env.qual ++ "<lambda>" = Str.ofString "law.<locals>.<lambda>")
    (hpos : q229.lookup ((pos.line : Int), (pos.col : Int)) = some (Str.ofString "law.<locals>.<lambda>")) (hx : env.kindOf (Str.ofString "reduce") = some .globalImplicit) :
    EV w b A env G (.Call (.Name (Str.ofString "reduce") p0) [.Lambda (args2 (Str.ofString "one") (Str.ofString "other") px py) (bdLam2 lt p1 p2 p3 p4 p5 p6) scLam2 pos, .Name (Str.ofString "counts") pc] [] p7) (intV (xs.foldl (opOf lt) x)) := fun O B s₀ s Q E F h => by
  refine Call_ (nm_glob (v := .ref 198) W F.st (callWith_K (K := KK w) (F.st.k W) (by kernel_rfl) (spliced_more (kla_eval (by kernel_rfl) ?_))) (by kernel_rfl) F.ks hx F.gl (by decide)) rfl
  rw [hq]
  obtain ⟨ps, e229, tq⟩ := F.st.cod.c229
  refine mk_lam (P := 229) (c := 231) (qf := q229) W F.st (by decide) e229 tq (fun h' a hk e' ga r => F.st.cod.grow229 hk tq e' hpos ga r) hpos hcl F.gl hcode (by kernel_rfl) fun f s1 c' ctv pm N1 hf hr gc hfs => ?_
  have F1 := F.step N1
  have L1 : Lam2 s1.heap f lt := ⟨_, _, _, _, c', px, py, p1, p2, p3, p4, p5, p6, hf, hr, gc, Nat.lt_of_lt_of_le (F.st.lt W) hfs⟩
  refine spliced_more ((EV.name (P := intsV (x :: xs)) hG : EV w b A _ _ _ _) _ _ _ _ _ _ F1 fun v2 s2 N2 p2 => spliced_none ⟨N2.st.k W, ?_⟩)
  have p2' := p2
  obtain ⟨l, its, rfl, _⟩ := p2'
  exact reduce_call W N2.st hA hD (F1.step N2).lB (L1.nx N2) p2 h16 fun t s3 N3 => h _ _ ((N1.tr N2).tr N3) ⟨t, rfl⟩
end
end Mine
end -- C34
section -- C35
/-! C35: law's body -/
set_option maxRecDepth 100000
namespace Mine
open PySem PySem.W PySem.Calls PyProof.Rows Builtin
set_option maxHeartbeats 1000000

noncomputable def perms : List Str := [Str.ofString "abc", Str.ofString "acb", Str.ofString "bac", Str.ofString "bca", Str.ofString "cab", Str.ofString "cba"]
noncomputable def permLo (i : Nat) : Int := Txt.find (perms.getD i (Str.ofString "")) (Str.ofString "c") + 1
noncomputable def ordAt (i j : Nat) : Str := Txt.slice (perms.getD i (Str.ofString "")) none (some (permLo i + (j : Int))) ++ Str.ofString "d" ++ Txt.slice (perms.getD i (Str.ofString "")) (some (permLo i + (j : Int))) none
theorem perm_lo : ∀ i < 6, 1 ≤ permLo i ∧ permLo i ≤ 3 := by decide +kernel
theorem perm_sl : ∀ i < 6, ∀ j < 3, (perms.getD i (Str.ofString "")).length = 3 ∧ (Txt.slice (perms.getD i (Str.ofString "")) none (some (permLo i + ((j : Nat) : Int)))).length ≤ 3 ∧ (Txt.slice (perms.getD i (Str.ofString "")) none (some (permLo i + ((j : Nat) : Int))) ++ Str.ofString "d").length ≤ 4 ∧ (Txt.slice (perms.getD i (Str.ofString "")) (some (permLo i + ((j : Nat) : Int))) none).length ≤ 3 := by decide +kernel
theorem perm_sz : ∀ i < 7, (flat (fun i => (List.range (rng (permLo i) 4).length).map fun j => strV (ordAt i j)) i).length ≤ 100000 := by decide +kernel
/-- the twelve orders -/
noncomputable def ords : List Str := (List.range 6).flatMap fun i => (List.range (4 - permLo i).toNat).map (ordAt i)
theorem ords_len : ords.length = 12 := by decide +kernel
theorem ords_flat : lstV (flat (fun i => (List.range (rng (permLo i) 4).length).map fun j => strV (ordAt i j)) (perms.map strV).length) = strsV ords := by kernel_rfl
noncomputable def wordsOf (ns : List Int) : List Str := [mulS (Str.ofString "a") (drawSize ns 0), mulS (Str.ofString "b") (drawSize ns 1), mulS (Str.ofString "c") (drawSize ns 2), mulS (Str.ofString "d") (drawSize ns 2)]
noncomputable def widthOf (ns : List Int) : Int := 6 + (drawNums ns).sum.fmod 7
noncomputable def roomOf (ns : List Int) : Int := ((drawNums ns).sum.fdiv 7).fmod 9
noncomputable def dueW (ws : List Str) (c : Nat) : Str := Str.ofString " " ++ ws.getD (Txt.find (Str.ofString "abcd") ⟨#[c]⟩).toNat (Str.ofString "")
noncomputable def dueOf (ws : List Str) (o : Str) : Str := Txt.join (Str.ofString "") (o.cps.toList.map (dueW ws))
theorem sum_le {α : Type} {f : α → Nat} {M : Nat} : ∀ {l : List α}, (∀ x ∈ l, f x ≤ M) → (l.map f).sum ≤ l.length * M
  | [], _ => Nat.zero_le _
  | x :: l, h => by
    have h1 := h x (.head _)
    have h2 := sum_le (l := l) fun y hy => h y (.tail _ hy)
    rw [List.map_cons, List.sum_cons, List.length_cons, Nat.succ_mul]
    omega
theorem ords_ch : ∀ o ∈ ords, o.cps.toList.length = 4 ∧ ∀ c ∈ o.cps.toList, 0 ≤ Txt.find (Str.ofString "abcd") ⟨#[c]⟩ ∧ Txt.find (Str.ofString "abcd") ⟨#[c]⟩ < 4 := by decide +kernel
theorem perm_get {i : Nat} {P : VP} (h : (perms.map strV)[i]? = some P) : i < 6 ∧ P = strV (perms.getD i (Str.ofString "")) := by
  obtain ⟨p, hp, rfl⟩ := map_get h
  obtain ⟨hi, _⟩ := List.getElem?_eq_some_iff.mp hp
  exact ⟨hi, by rw [List.getD_eq_getElem?_getD, hp]; rfl⟩
section
variable {w : World} {A : Around} {E : Value → Shared → Prop} {s s₀ : Shared} {b : Heap} {mg mb : Str → Option Value} {bm : Addr} {ob : Obj} {env : Env} {G : List (Str × VP)} {B : List Addr} {O : List Str}

theorem law_body {ns : List Int} (W : WW w b mg mb bm ob) (hA : A.handled = none) (hD : A.depth < 500) (hU : A.units ≤ 200) (hn : ns.length ≤ 63) (hwl : ∀ x ∈ wordsOf ns, x.length ≤ 1000)
    (hO : ∀ A₁ : Around, A₁.handled = none → A₁.depth < 600 → A₁.units ≤ 250 → CS w b A₁ (.ref 203) [strV (Str.ofString "abc")] (strsV perms))
    (lay : Str → List Str) (hL : ∀ A₁ : Around, A₁.handled = none → A₁.depth < 600 → A₁.units ≤ 250 → ∀ o ∈ ords, CS w b A₁ (.ref 215) [strsV (wordsOf ns), strV o, intV (widthOf ns), intV (roomOf ns)] (strsV (lay o)))
    (hll : ∀ o ∈ ords, (lay o).length ≤ 1000 ∧ ∀ r ∈ lay o, r.length ≤ 10000) (hJ : ∀ o ∈ ords, Txt.join (Str.ofString "") (lay o) = dueOf (wordsOf ns) o) (hB : ∀ o ∈ ords, ∀ k r, (lay o)[k]? = some r → badRow (widthOf ns) (roomOf ns) k r = false)
    {x : Int} {xs : List Int} (hc : (ords.map fun o => ((lay o).length : Int)) = x :: xs) (hmin : xs.foldl (opOf true) x = bestOf ((wordsOf ns).map fun y => 1 + (y.length : Int)) (widthOf ns) (roomOf ns)) (hmax : xs.foldl (opOf false) x < 2 * xs.foldl (opOf true) x) :
    CS w b A (.ref 232) [scrV ns] (boolV true) := by
  refine CS.def (f := 232) (ns := [Str.ofString "script"]) [Str.ofString "words", Str.ofString "width", Str.ofString "room"] W (Nat.lt_trans hD (by decide)) rfl rfl (by kernel_rfl) rfl rfl rfl rfl (by decide)
    (fun vs h => by obtain ⟨a, rfl⟩ := len1 h; rfl) (fun L x hx => by rw [List.mem_singleton.mp hx]; exact .inl rfl) (fun L x hx => by simp only [List.mem_cons, List.not_mem_nil, or_false] at hx; rcases hx with rfl | rfl | rfl <;> rfl) fun L A₁ hA₁ hD₁ hU₁ => ?_
  have hA₁' := hA₁.trans hA
  have hD' : A₁.depth < 600 := by omega
  have hU' : A₁.units ≤ 250 := by omega
  have hD8 : A₁.depth < 800 := by omega
  have hUc : A₁.units < cLine := Nat.lt_of_le_of_lt hU' (by decide)
  intro B s₀ s Q E F hq
  refine st_unpack3 hA₁' F (EV.callK W (.cons .name .nil) (law_draw W hA₁' hD8 hn)) (.inr ⟨rfl, by simp⟩) (.inr ⟨rfl, by simp⟩) (.inr ⟨rfl, by simp⟩) fun s1 F1 => ?_
  have nmO : nmOk [(Str.ofString ".0", NameKind.local), (Str.ofString "one", NameKind.local), (Str.ofString "k", NameKind.local), (Str.ofString "range", NameKind.globalImplicit)] = true := by decide
  refine st_assign_comp2 (Ps := perms.map strV) (fun i => rng (permLo i) 4) (fun i j => strV (ordAt i j)) [] [] W hA₁' F1 (IE.of hA₁' (EV.callK W (.cons .str .nil) (hO A₁ hA₁' hD' hU')) ITV.list) rfl (nmOk_nd nmO) trivial (clOk_of rfl) (fun C y hy => nomatch hy) (.inl rfl) (.inl rfl) rfl rfl rfl (fun i hi => ?_) (nmOk_of nmO) (fun C i P hP => ?_) (fun C i P hP j P2 hP2 => ?_) (fun s2 N2 F2 => ?_)
  · exact perm_sz i (Nat.lt_succ_of_le hi)
  · obtain ⟨hi, rfl⟩ := perm_get hP
    obtain ⟨l1, l2⟩ := perm_lo i hi
    exact IE.range2 W (.add (EV.find .name .str) .int) .int (by show -1000000 ≤ permLo i; omega) (by show permLo i ≤ 1000000; omega) (by decide) (by decide)
  · obtain ⟨hi, rfl⟩ := perm_get hP
    obtain ⟨rfl, hj⟩ := rng_get hP2
    obtain ⟨l1, l2⟩ := perm_lo i hi
    obtain ⟨s1, s2, s3, s4⟩ := perm_sl i hi j (by omega)
    exact .cat (.cat (.sliceTo .name .name (by omega)) .str (by rw [show (Str.ofString "d").length = 1 from by decide]; omega)) (.sliceFrom .name .name (by omega)) (by omega)
  rw [ords_flat] at F2
  have nmL : nmOk [(Str.ofString ".0", NameKind.local), (Str.ofString "order", NameKind.local), (Str.ofString "_law_lay", NameKind.globalImplicit), (Str.ofString "room", NameKind.free), (Str.ofString "width", NameKind.free), (Str.ofString "words", NameKind.free)] = true := by decide
  refine st_assign_comp (Ps := ords.map strV) (fun i => (ords[i]?).map fun o => strsV (lay o)) [(Str.ofString "room", intV (roomOf ns)), (Str.ofString "width", intV (widthOf ns)), (Str.ofString "words", strsV (wordsOf ns))] [] W hA₁' F2 (IE.of hA₁' .name ITV.list) rfl (nmOk_nd nmL) ⟨⟨⟨rfl, rfl⟩, .inl rfl⟩, ⟨⟨rfl, rfl⟩, .inl rfl⟩, ⟨⟨rfl, rfl⟩, .inl rfl⟩, trivial⟩ (clOk_of rfl) (fun C y hy => nomatch hy) (.inl rfl) rfl (by rw [List.length_map, ords_len]; decide) (nmOk_of nmL) (fun C i P hP => .inl ⟨rfl, ?_⟩) (fun s3 N3 F3 => ?_)
  · obtain ⟨o, ho, rfl⟩ := map_get hP
    rw [ho]
    exact ⟨_, rfl, EV.callK W (.cons .name (.cons .name (.cons .name (.cons .name .nil)))) (hL A₁ hA₁' hD' hU' o (List.mem_of_getElem? ho))⟩
  rw [List.length_map, outs_get] at F3
  have nmD : nmOk [(Str.ofString ".0", NameKind.local), (Str.ofString "order", NameKind.local), (Str.ofString "words", NameKind.free)] = true := by decide
  refine st_assign_comp (Ps := ords.map strV) (fun i => (ords[i]?).map fun o => strV (dueOf (wordsOf ns) o)) [(Str.ofString "words", strsV (wordsOf ns))] [] W hA₁' F3 (IE.of hA₁' .name ITV.list) rfl (nmOk_nd nmD) ⟨⟨⟨rfl, rfl⟩, .inl rfl⟩, trivial⟩ (clOk_of rfl) (fun C y hy => nomatch hy) (.inl rfl) rfl (by rw [List.length_map, ords_len]; decide) (nmOk_of nmD) (fun C i P hP => .inl ⟨rfl, ?_⟩) (fun s4 N4 F4 => ?_)
  · obtain ⟨o, ho, rfl⟩ := map_get hP
    rw [ho]
    obtain ⟨o4, oc⟩ := ords_ch o (List.mem_of_getElem? ho)
    have hws : (wordsOf ns).length = 4 := rfl
    refine ⟨_, rfl, EV.join .str (ys := o.cps.toList.map (dueW (wordsOf ns))) ?_ ?_⟩
    rotate_left
    · rw [List.map_map]
      have h1 := sum_le (f := fun c => (dueW (wordsOf ns) c).length) (M := 1001) (l := o.cps.toList) fun c hc => by
        obtain ⟨c0, c4⟩ := oc c hc
        have hl : (Txt.find (Str.ofString "abcd") ⟨#[c]⟩).toNat < (wordsOf ns).length := by rw [hws]; omega
        show (Str.ofString " " ++ _).length ≤ _
        rw [Str.length_append, show (Str.ofString " ").length = 1 from by decide, List.getD_eq_getElem?_getD, List.getElem?_eq_getElem hl]
        have := hwl _ (List.getElem_mem hl)
        show 1 + ((wordsOf ns)[(Txt.find (Str.ofString "abcd") ⟨#[c]⟩).toNat]).length ≤ _
        omega
      rw [o4] at h1
      have h2 : (Str.ofString "").length = 0 := by decide
      rw [h2, Nat.mul_zero, Nat.add_zero]
      exact Nat.le_trans h1 (by decide)
    have e : lstV (outs (fun i => (o.cps.toList[i]?).map fun c => strV (dueW (wordsOf ns) c)) (o.cps.toList.map fun c => strV ⟨#[c]⟩).length) = strsV (o.cps.toList.map (dueW (wordsOf ns))) := by
      rw [List.length_map, outs_get]; unfold strsV; rw [List.map_map]; rfl
    rw [← e]
    refine EV.lc _ [(Str.ofString "words", strsV (wordsOf ns))] [] W hA₁' (IE.of hA₁' .name (ITV.str W)) (by rw [List.length_map, o4]; decide) (fun C' k P hP => .inl ⟨rfl, ?_⟩) ⟨⟨⟨rfl, rfl⟩, .inl rfl⟩, trivial⟩
    obtain ⟨c, hc, rfl⟩ := map_get hP
    obtain ⟨c0, c4⟩ := oc c (List.mem_of_getElem? hc)
    have hl : (Txt.find (Str.ofString "abcd") ⟨#[c]⟩).toNat < (wordsOf ns).length := by rw [hws]; omega
    have e1 : (wordsOf ns).getD (Txt.find (Str.ofString "abcd") ⟨#[c]⟩).toNat (Str.ofString "") = (wordsOf ns)[(Txt.find (Str.ofString "abcd") ⟨#[c]⟩).toNat] := by
      rw [List.getD_eq_getElem?_getD, List.getElem?_eq_getElem hl]; rfl
    refine ⟨_, by rw [hc]; rfl, .cat .str (.item .name (EV.find .str .name) c0 (by omega) ?_) ?_⟩
    · rw [e1, List.getElem?_map, List.getElem?_eq_getElem hl]; rfl
    · rw [e1, show (Str.ofString " ").length = 1 from by decide]
      have := hwl _ (List.getElem_mem hl)
      omega
  rw [List.length_map, outs_get] at F4
  have e4 : lstV (ords.map fun o => strV (dueOf (wordsOf ns) o)) = strsV (ords.map (dueOf (wordsOf ns))) := by unfold strsV; rw [List.map_map]; rfl
  rw [e4] at F4
  -- if [''.join(rows) for rows in laid] != due or [rows for rows in laid if not _law_fits(rows, width, room)] != []
  have nmJ : nmOk [(Str.ofString ".0", NameKind.local), (Str.ofString "rows", NameKind.local)] = true := by decide
  refine wpAny_execs_cons (wpAny_If (TV.or (c := false) (d := false) (TV.neEq (xs := ords.map (dueOf (wordsOf ns))) hUc ?tj .name) (fun _ => TV.or (c := false) (d := false) (TV.neNil hUc ?tf (EV.list W .nil (by simp))) fun _ => TV.orNil) _ B s₀ s4 _ _ F4 fun s5 N5 => ?_))
  case tj =>
    have e : lstV (outs (fun i => (ords[i]?).map fun o => strV (dueOf (wordsOf ns) o)) (ords.map fun o => strsV (lay o)).length) = strsV (ords.map (dueOf (wordsOf ns))) := by
      rw [List.length_map, outs_get]; unfold strsV; rw [List.map_map]; rfl
    rw [← e]
    refine EV.lc _ [] [] W hA₁' (IE.of hA₁' .name ITV.list) (by rw [List.length_map, ords_len]; decide) (fun C' k P hP => .inl ⟨rfl, ?_⟩) trivial
    obtain ⟨o, ho, rfl⟩ := map_get hP
    have hm := List.mem_of_getElem? ho
    refine ⟨strV (dueOf (wordsOf ns) o), by rw [ho]; rfl, ?_⟩
    rw [← hJ o hm]
    refine EV.join .str .name ?_
    have h1 := sum_le (f := fun c : Str => c.length) (M := 10000) (l := lay o) fun c hc => Nat.le_trans ((hll o hm).2 c hc) (by decide)
    have h2 : (Str.ofString "").length = 0 := by decide
    have h3 := (hll o hm).1
    rw [h2, Nat.mul_zero, Nat.add_zero]
    omega
  case tf =>
    have e : lstV (outs (fun _ => none) (ords.map fun o => strsV (lay o)).length) = lstV [] := by
      unfold outs; rw [List.filterMap_eq_nil_iff.mpr fun _ _ => rfl]
    rw [← e]
    refine EV.lc _ [(Str.ofString "room", intV (roomOf ns)), (Str.ofString "width", intV (widthOf ns))] [] W hA₁' (IE.of hA₁' .name ITV.list) (by rw [List.length_map, ords_len]; decide) (fun C' k P hP => .inr ⟨_, false, rfl, ?_, fun _ => rfl, fun h => nomatch h⟩) ⟨⟨⟨rfl, rfl⟩, .inl rfl⟩, ⟨⟨rfl, rfl⟩, .inl rfl⟩, trivial⟩
    obtain ⟨o, ho, rfl⟩ := map_get hP
    have hm := List.mem_of_getElem? ho
    exact TV.not (c := true) (.ofBool (EV.callK W (.cons .name (.cons .name (.cons .name .nil))) (law_fits W hA₁' hD8 (hll o hm).1 (fun r hr => Nat.le_trans ((hll o hm).2 r hr) (by decide)) (hB o hm))))
  refine wpAny_execs_nil ?_
  have F5 := F4.step N5
  -- counts
  refine st_assign_comp (Ps := ords.map fun o => strsV (lay o)) (fun i => (ords[i]?).map fun o => intV ((lay o).length : Int)) [] [] W hA₁' F5 (IE.of hA₁' .name ITV.list) rfl (nmOk_nd nmJ) trivial (clOk_of rfl) (fun C y hy => nomatch hy) (.inl rfl) rfl (by rw [List.length_map, ords_len]; decide) (nmOk_of nmJ) (fun C i P hP => .inl ⟨rfl, ?_⟩) (fun s6 N6 F6 => ?_)
  · obtain ⟨o, ho, rfl⟩ := map_get hP
    have hm := List.mem_of_getElem? ho
    refine ⟨intV ((lay o).length : Int), by rw [ho]; rfl, ?_⟩
    have e : (((lay o).map strV).length : Int) = ((lay o).length : Int) := by rw [List.length_map]
    rw [← e]
    exact EV.callB W (.cons .name .nil) (CS.lenL (by rw [List.length_map]; exact Nat.le_trans (hll o hm).1 (by decide)))
  have e6 : lstV (outs (fun i => (ords[i]?).map fun o => intV ((lay o).length : Int)) (ords.map fun o => strsV (lay o)).length) = intsV (x :: xs) := by
    rw [List.length_map, outs_get, ← hc]; unfold intsV; rw [List.map_map]; rfl
  rw [e6] at F6
  have hxl : xs.length ≤ 100000 := by
    have := congrArg List.length hc
    rw [List.length_map, ords_len, List.length_cons] at this
    omega
  refine st_assign (P := intV (xs.foldl (opOf true) x)) F6 (law_reduce W hA₁' (by omega) rfl hxl rfl rfl rfl (by decide) rfl) (.inl rfl) fun a7 s7 N7 hm7 F7 => ?_
  refine st_assign (P := intV (xs.foldl (opOf false) x)) F7 (law_reduce W hA₁' (by omega) rfl hxl rfl rfl rfl (by decide) rfl) (.inl rfl) fun a8 s8 N8 hm8 F8 => ?_
  refine XV.ret (O := [Str.ofString "words", Str.ofString "width", Str.ofString "room"]) (P := boolV true) ?_ B s₀ s8 Q E F8 hq
  have e9 : (boolV true) = boolV ((xs.foldl (opOf true) x == bestOf ((wordsOf ns).map fun y => 1 + (y.length : Int)) (widthOf ns) (roomOf ns)) && decide (xs.foldl (opOf false) x < 2 * xs.foldl (opOf true) x)) := by
    rw [← hmin, beq_self_eq_true, decide_eq_true hmax]; rfl
  rw [e9]
  refine EV.and2 (EV.eq .name (EV.callK W (.cons ?_ (.cons .name (.cons .name .nil))) (law_best W hA₁' hD8 (Nat.lt_of_le_of_lt (Nat.add_le_add_right hU' 3) (by decide)) rfl))) (EV.lt .name (.mul .int .name ?_))
  · have e : lstV (outs (fun i => ((wordsOf ns)[i]?).map fun y => intV (1 + (y.length : Int))) ((wordsOf ns).map strV).length) = intsV ((wordsOf ns).map fun y => 1 + (y.length : Int)) := by
      rw [List.length_map, outs_get]; unfold intsV; rw [List.map_map]; rfl
    rw [← e]
    refine EV.lc _ [] [] W hA₁' (IE.of hA₁' .name ITV.list) (show 4 ≤ 100000 by decide) (fun C' k P hP => .inl ⟨rfl, ?_⟩) trivial
    obtain ⟨y, hy, rfl⟩ := map_get hP
    exact ⟨_, by rw [hy]; rfl, .add .int (EV.callB W (.cons .name .nil) (CS.lenS (Nat.le_trans (hwl y (List.mem_of_getElem? hy)) (by decide))))⟩
  · exact IntMulOk.of_left (by decide)
end
end Mine
end -- C35
section -- C37
/-! C37: tokens never fall -/
set_option maxRecDepth 100000
namespace Mine
open PySem PySem.W PySem.Calls PyProof.Rows

theorem runs_toks {M : Model} {Γ : Ctx} {p : Pos} {t : Sem PySem.Fin} {fs : List Frame} {s s' : Shared} {e : End} (h : Runs M Γ p t fs s e s') : s.toks ≤ s'.toks := by
  induction h <;> (try simp only [Shared.setGen] at *) <;> omega
theorem wakes_toks {M : Model} {Γ : Ctx} {p : Pos} {g : Nat} {r : Resume} {s s' : Shared} {res : GenResult} (h : Wakes M Γ p g r s res s') : s.toks ≤ s'.toks := by
  unfold Wakes at h
  split at h
  · exact h.elim
  · split at h
    · obtain ⟨e₁, s₁, hr, _, _, rfl⟩ := h; exact (runs_toks hr : (s.setGen g .running).toks ≤ s₁.toks)
    · rw [h.2]; exact Nat.le_refl _
    · rw [h.2]; exact Nat.le_refl _
  · obtain ⟨e₁, s₁, hr, _, _, rfl⟩ := h; exact (runs_toks hr : (s.setGen g .running).toks ≤ s₁.toks)
  · rw [h.2]; exact Nat.le_refl _
  · rw [h.2]; exact Nat.le_refl _

theorem wp_toks {α : Type} (M : Model) (Γ : Ctx) (n : Nat) (t : Sem α) : ∀ (Q : α → Pos → Shared → Prop) (E : Value → Pos → Shared → Prop) (p : Pos) (s : Shared), n ≤ s.toks → Sem.wp M Γ t Q E p s →
    Sem.wp M Γ t (fun a p' s' => n ≤ s'.toks ∧ Q a p' s') (fun e p' s' => n ≤ s'.toks ∧ E e p' s') p s := by
  induction t with
  | pure a => intro Q E p s hn h; exact ⟨hn, h⟩
  | raise e => intro Q E p s hn h; exact ⟨hn, h⟩
  | unsupported _ => intro Q E p s _ h; exact h
  | finish _ => intro Q E p s _ h; exact h
  | rule _ k ih => intro Q E p s hn h; exact ih () Q E p s hn h
  | «at» p' k ih => intro Q E p s hn h; exact ih () Q E p' s hn h
  | load a _ k ih => intro Q E p s hn h; obtain ⟨o, ho, h⟩ := h; exact ⟨o, ho, ih o Q E p s hn h⟩
  | update a _ f k ih => intro Q E p s hn h; exact ⟨h.1, ih () Q E p _ hn h.2⟩
  | loadIfAlive a k ih => intro Q E p s hn h; exact ih _ Q E p s hn h
  | point _ k ih => intro Q E p s hn h; exact ih () Q E p s hn h
  | register _ _ => intro Q E p s _ h; exact h
  | alloc o k ih => intro Q E p s hn h; exact ih _ Q E p _ hn h
  | fresh k ih => intro Q E p s hn h; exact ih _ Q E p _ (Nat.le_succ_of_le hn) h
  | ask k ih => intro Q E p s hn h; exact ih _ Q E p s hn h
  | choose src m k ih => intro Q E p s hn h; exact ⟨h.1, ih _ Q E p _ hn h.2⟩
  | os q _ k ih => intro Q E p s hn h; exact ih _ Q E p _ hn h
  | call c hd _ _ k ih => intro Q E p s hn h; obtain ⟨r, s', hr, h⟩ := h; exact ⟨r, s', hr, ih r Q E p s' (Nat.le_trans hn (runs_toks hr)) h⟩
  | handled own k ih => intro Q E p s hn h; exact ih _ Q E p s hn h
  | genState g k ih => intro Q E p s hn h; obtain ⟨st, hs, h⟩ := h; exact ⟨st, hs, ih _ Q E p s hn h⟩
  | newGen c k ih => intro Q E p s hn h; exact ih _ Q E p _ hn h
  | resume g r _ k ih => intro Q E p s hn h; obtain ⟨res, s', hw, h⟩ := h; exact ⟨res, s', hw, ih res Q E p s' (Nat.le_trans hn (wakes_toks hw)) h⟩
  | yield _ _ _ _ => intro Q E p s _ h; exact h
  | stack k ih => intro Q E p s hn h; exact ih _ Q E p s hn h
  | fork _ _ => intro Q E p s _ h; exact h
  | thread k ih => intro Q E p s hn h; exact ih _ Q E p s hn h
  | await _ _ _ _ _ => intro Q E p s _ h; exact h

section
variable {α : Type} {M : Model} {A A' : Around} {s : Shared}
theorem wpAny_toks {t : Sem α} {Q : α → Shared → Prop} {E : Value → Shared → Prop} {n : Nat} (hn : n ≤ s.toks)
    (h : wpAny M A t (fun a s' => n ≤ s'.toks → Q a s') E s) : wpAny M A t Q E s :=
  wpAny_mono (Q := fun a s' => n ≤ s'.toks ∧ (n ≤ s'.toks → Q a s')) (E := fun e s' => n ≤ s'.toks ∧ E e s') (fun Γ p hΓ => wp_toks M Γ n t _ _ p s hn (h Γ p hΓ)) (fun _ _ x => x.2 x.1) (fun _ _ x => x.2)
end
end Mine
end -- C37
section -- C38
/-! C38: a comprehension of two sources, the first a str whose letters' tokens are known to be set -/
set_option maxRecDepth 100000
namespace Mine
open PySem PySem.W PySem.Calls PyProof.Rows Builtin
set_option maxHeartbeats 1000000
section
variable {w : World} {A : Around} {E : Value → Shared → Prop} {s s₀ : Shared} {b : Heap} {mg mb : Str → Option Value} {bm : Addr} {ob : Obj} {env : Env} {G : List (Str × VP)} {B : List Addr} {O : List Str}
noncomputable def PsS (z : Str) : List VP := z.cps.toList.map fun c => strV ⟨#[c]⟩
noncomputable def IEu (w : World) (b : Heap) (A : Around) (env : Env) (G : List (Str × VP)) (e : Expr) (Ps : List VP) (u : Tok) : Prop :=
  ∀ (O : List Str) (B : List Addr) (s₀ s : Shared) (Q : Value → Shared → Prop) (E : Value → Shared → Prop), Fm b O B env s₀ G s → u < s.toks →
    (∀ I J s', Nx b [] s s' → Itr w b I Ps J → J B 0 s'.heap → s.heap.objs.size ≤ I → Q (.ref I) s') → wpAny (model PW w) A (eval e env) (fun v s1 => wpAny (model PW w) A (pyIter v) Q E s1) E s
theorem nc_striter {h : Heap} {I : Addr} {T : String} {x : Str} {t : Tok} {i : Nat} (j : h.IsStrIter I T x t i) : NC h I := nc_of (p := fun _ => True) (by
  obtain ⟨o, e, hc, hd⟩ := j
  exact ⟨o, T, e, ⟨_, hd, fun x t q => by simp at q⟩, hc, trivial⟩)
theorem strItr {I : Addr} {z : Str} {tz : Tok} (gI : 232 < I) (fI : b.get? I = none) : Itr w b I (PsS z) (fun _ i h => h.IsStrIter I "str_ascii_iterator" z tz i) := by
  have hlen : (PsS z).length = z.cps.size := by simp [PsS]
  refine Itr.solo (P := SignAt z) gI fI (fun A hA => ?_) ?_ ?_ ?_
  · rw [hlen]; exact Walks.strAscii hA _ z tz
  · rintro i v p ⟨c, u, h1, rfl⟩ hp B h
    rw [PsS, List.getElem?_map, Array.getElem?_toList, h1] at hp
    cases hp
    exact ⟨u, rfl⟩
  · rintro i h ⟨o, e, hc, hd⟩
    exact ⟨o, "str_ascii_iterator", e, ⟨_, hd, fun x t q => by simp at q⟩, hc, by decide⟩
  · intro A i s1 Q E h hq
    exact wpAny_pyIter_striter_ascii h hq
/-- the outer loop -/
theorem comp_outS {elt i1 i2 : Expr} {x y : Str} {px py : Pos} {scope : Scope} {pos : Pos} {I D : Addr} {z : Str} {tz : Tok} {ce : Env} {Ps2 : Nat → List VP} {R2 : Nat → Nat → VP} {RR : Result → Shared → Prop}
    (W : WW w b mg mb bm ob) (hA : A.handled = none) (hasc : z.cps.all (· < 128) = true) (gI : 232 < I) (fIb : b.get? I = none) (hk0 : 1 ≤ s.toks) (F : Fm b O (D :: B) ce s₀ G s) (fI : s₀.heap.objs.size ≤ I) (fD : s₀.heap.objs.size ≤ D) (gD : 232 < D)
    (hx : ce.kindOf x = some .local ∨ (ce.kindOf x = some .cell ∧ x ∈ O)) (hy : ce.kindOf y = some .local ∨ (ce.kindOf y = some .cell ∧ y ∈ O)) (hGx : G.lookup x = none) (hGy : G.lookup y = none) (hxy : (y == x) = false)
    (hj : s.heap.IsStrIter I "str_ascii_iterator" z tz 0) (hD : s.heap.PlainList D #[]) (hsz : ∀ i, i ≤ (PsS z).length → (flat (fun i => (List.range (Ps2 i).length).map (R2 i)) i).length ≤ 100000)
    (src : ∀ i c u, z.cps.toList[i]? = some c → 1 ≤ u → IEu w b A ce ((x, isV (.str ⟨#[c]⟩ u)) :: G) i2 (Ps2 i) u)
    (turn : ∀ i c u, z.cps.toList[i]? = some c → ∀ j P2, (Ps2 i)[j]? = some P2 → EV w b A ce ((y, P2) :: (x, isV (.str ⟨#[c]⟩ u)) :: G) elt (R2 i j))
    (hR : ∀ s' ys, Fm b O (D :: B) ce s₀ G s' → s'.heap.PlainList D ys → AllR (D :: B) s'.heap (flat (fun i => (List.range (Ps2 i).length).map (R2 i)) (PsS z).length) ys.toList → RR (.ok .next) s')
    (hs : ∀ v, foldedSetIterable i2 ce v = pure v := by intro _; rfl) :
    codeAny (model PW w) A (.compLoop (lc2 elt (.Name x px) i1 (.Name y py) i2 scope pos) 0 (.ref I) (.ref D) ce) RR s := by
  have it : Itr w b I (PsS z) (fun _ i h => h.IsStrIter I "str_ascii_iterator" z tz i) := strItr gI fIb
  let J : List Addr → Nat → Heap → Prop := fun _ i h => h.IsStrIter I "str_ascii_iterator" z tz i
  refine codeAny_loop rfl (fun n s' => ∃ i ys, n = (PsS z).length + 1 - i ∧ i ≤ (PsS z).length ∧ Fm b O (D :: B) ce s₀ G s' ∧ J (D :: B) i s'.heap ∧ s'.heap.PlainList D ys ∧ AllR (D :: B) s'.heap (flat (fun i => (List.range (Ps2 i).length).map (R2 i)) i) ys.toList ∧ 1 ≤ s'.toks) (fun n s1 h1 => ?_) ((PsS z).length + 1)
    ⟨0, #[], rfl, Nat.zero_le _, F, hj, hD, trivial, hk0⟩
  obtain ⟨i, ys, rfl, hi, F1, j1, hD1, hy1, hk1⟩ := h1
  show wpAny _ A ((compTurn (lc2 elt (.Name x px) i1 (.Name y py) i2 scope pos) 0 (.ref I) (.ref D) ce).onRaise (fun x => do noteFrame x ce; theTreesLotGoes x)) _ _ s1
  refine wpAny_noted ?_
  rw [compTurn2_0]
  have stepI : ∀ {s s' : Shared} {i : Nat}, Fm b O (D :: B) ce s₀ G s → J (D :: B) i s.heap → Nx b [I] s s' → Fm b O (D :: B) ce s₀ G s' := fun F hj N => by
    obtain ⟨o, e, vs, hd⟩ := it.live (B := D :: B) hj
    exact F.stepX N fun a ha => by rw [List.mem_singleton.mp ha]; exact ⟨not_wr_fields e hd, fI, .inr (noseq_fields e hd)⟩
  have neID : ∀ {s : Shared} {i : Nat} {ys : Array Value}, J (D :: B) i s.heap → s.heap.PlainList D ys → D ≠ I := fun hj ⟨n, e⟩ q => by
    obtain ⟨o, e', vs, hd⟩ := it.live (B := D :: B) hj
    rw [← q, e] at e'; cases e'; cases hd
  have hne := neID j1 hD1
  have plN : ∀ {X : List Addr} {s s' : Shared} {ys : Array Value}, s.heap.PlainList D ys → Nx b X s s' → D ∉ X → s'.heap.PlainList D ys := fun ⟨n, e⟩ N h => ⟨n, N.kp _ _ (notab_of gD) h e⟩
  refine wpAny_bind (wpAny_standAt (wpAny_bind ?_))
  by_cases hlt : i < (PsS z).length
  · have hlt' : i < z.cps.toList.length := by rw [PsS, List.length_map] at hlt; exact hlt
    have hP : z.cps.toList[i]? = some z.cps.toList[i] := List.getElem?_eq_getElem hlt'
    have hP' : z.cps[i]? = some z.cps.toList[i] := by rw [← Array.getElem?_toList]; exact hP
    refine wpAny_pyNext_ascii_item j1 hP' fun h2 j2 hs2 => ?_
    have N2 : Nx b [I] s1 { s1 with heap := h2, toks := s1.toks + 1 } := Nx.same F1.st hs2 gI fIb (nc_striter j1)
    have F2 := stepI F1 j1 N2
    have hD2 := plN hD1 N2 (fun q => hne (List.mem_singleton.mp q))
    have hIn : ∀ o, s1.heap.get? I = some o → ∀ its n, o.data ≠ .seq its n := by
      obtain ⟨o, e, vs, hd⟩ := it.live (B := D :: B) j1
      exact noseq_fields e hd
    have hy2 := hy1.st (Mv.of1 N2 hIn)
    refine wpAny_bind (it.nolet (B := D :: B) j2 rfl (wpAny_bind (wpAny_toks (n := s1.toks + 1) (Nat.le_refl _) (wpAny_assign_Name (F2.set (P := isV (.str ⟨#[z.cps.toList[i]]⟩ s1.toks)) rfl hx fun a s3 N3 wr F3 hk3 => ?_)))))
    have hDa : D ≠ a := fun q => by
      obtain ⟨n, e⟩ := hD2
      exact wr.noseq _ (q ▸ e) _ _ rfl
    have hIa : I ≠ a := fun q => by
      obtain ⟨o, e, vs, hd⟩ := it.live (B := D :: B) j2
      exact wr.nofld (q ▸ e) hd
    have j3 := it.frame (B := D :: B) j2 N3 (fun q => hIa (List.mem_singleton.mp q)) fun c hc => .inr (by rw [List.mem_singleton.mp hc]; exact wr.noseq)
    have hD3 := plN hD2 N3 (fun q => hDa (List.mem_singleton.mp q))
    have hy3 := hy2.st (Mv.of1 N3 wr.noseq)
    -- the inner source
    refine wpAny_bind (wpAny_toks (n := 1) (Nat.le_trans hk1 (Nat.le_trans (Nat.le_succ _) hk3)) (wpAny_mono (src i _ _ hP hk1 O (D :: B) s₀ s3 (fun v2 s5 => codeAny (model PW w) A (.compStart (lc2 elt (.Name x px) i1 (.Name y py) i2 scope pos) 1 v2 (.ref D) ce) (fun r s' => match r with | .ok f => ∃ m, m < (PsS z).length + 1 - i ∧ ∃ i' ys, m = (PsS z).length + 1 - i' ∧ i' ≤ (PsS z).length ∧ Fm b O (D :: B) ce s₀ G s' ∧ J (D :: B) i' s'.heap ∧ s'.heap.PlainList D ys ∧ AllR (D :: B) s'.heap (flat (fun i => (List.range (Ps2 i).length).map (R2 i)) i') ys.toList | .error e => cameBackBy (model PW w) A ce (notedBy (model PW w) A ce fun e s' => RR (.error e) s') e s') s5) _ F3 hk3 fun I2 J2 s5 N5 it2 j20 hI2 => ?_) (fun v1 s4 h4 hk4 => ?_) fun _ _ e => e))
    · have F5 := F3.step N5
      have j5 := it.frame (B := D :: B) j3 N5 (List.not_mem_nil) fun c hc => nomatch hc
      have hD5 := plN hD3 N5 List.not_mem_nil
      have hy5 := hy3.st (Mv.of0 N5)
      have hlen := hy5.len
      have hII : I ≠ I2 := fun q => by
        obtain ⟨o, e, _⟩ := it.live (B := D :: B) j3
        have := Heap.lt_size e
        rw [q] at this
        exact absurd this (Nat.not_lt.mpr hI2)
      have kst : ∀ s1 s2 a, J (D :: B) (i + 1) s1.heap → Nx b [a] s1 s2 → ((a = I2 ∧ ∀ o, s1.heap.get? a = some o → ∀ its n, o.data ≠ .seq its n) ∨ a = D ∨ Wr s1 a) → J (D :: B) (i + 1) s2.heap := by
        intro u1 u2 c hj N hc
        rcases hc with ⟨rfl, hns⟩ | rfl | hw
        · exact it.frame (B := D :: B) hj N (fun q => hII (List.mem_singleton.mp q)) fun d hd => .inr (by rw [List.mem_singleton.mp hd]; exact hns)
        · exact it.frame (B := c :: B) hj N (fun q => hne (List.mem_singleton.mp q).symm) fun d hd => .inl (by rw [List.mem_singleton.mp hd]; exact .head _)
        · refine it.frame (B := D :: B) hj N (fun q => ?_) fun d hd => .inr (by rw [List.mem_singleton.mp hd]; exact hw.noseq)
          obtain ⟨o, e, vs, hd⟩ := it.live (B := D :: B) hj
          exact hw.nofld ((List.mem_singleton.mp q) ▸ e) hd
      have hlz := hsz (i + 1) hlt
      rw [flat, List.length_append, List.length_map, List.length_range] at hlz
      have loop : codeAny (model PW w) A (.compLoop (lc2 elt (.Name x px) i1 (.Name y py) i2 scope pos) 1 (.ref I2) (.ref D) ce) _ s5 :=
        comp_in (RR := (fun r s' => match r with | .ok f => ∃ m, m < (PsS z).length + 1 - i ∧ ∃ i' ys, m = (PsS z).length + 1 - i' ∧ i' ≤ (PsS z).length ∧ Fm b O (D :: B) ce s₀ G s' ∧ J (D :: B) i' s'.heap ∧ s'.heap.PlainList D ys ∧ AllR (D :: B) s'.heap (flat (fun i => (List.range (Ps2 i).length).map (R2 i)) i') ys.toList | .error e => cameBackBy (model PW w) A ce (notedBy (model PW w) A ce fun e s' => RR (.error e) s') e s')) (K := fun s => J (D :: B) (i + 1) s.heap) kst (fun s1 s2 hj N => it.frame (B := D :: B) hj N List.not_mem_nil (fun _ h => nomatch h)) hA it2 F5 (Nat.le_trans F3.nx.sz hI2) fD gD hy
          (by rw [List.lookup_cons, hxy]; exact hGy) j20 hD5 hy5 j5 hlz (turn i _ _ hP) fun s6 ys6 F6 j6 hD6 hy6 => ⟨(PsS z).length + 1 - (i + 1), sub_step hlt, i + 1, ys6, rfl, hlt, F6.sub (lookup_drop hGx), j6, hD6, hy6⟩
      exact codeAny_compStart2 (by decide) loop (it2.self (B := D :: B) j20 loop)
    · refine wpAny_bind (wpAny_standAt (wpAny_bind (wpAny_of_eq (hs v1) (wpAny_bind (wpAny_toks (n := 1) hk4 (wpAny_holding (wpAny_mono h4 (fun v2 s5 h5 hk5 => ?_) fun _ _ e => e)))))))
      refine wpAny_bind (wpAny_toks (n := 1) hk5 (wpAny_runOwn (codeAny_mono h5 fun r s' hr => ?_)))
      cases r with
      | ok f =>
        refine fun hk6 => wpAny_pure ⟨rfl, ?_⟩
        obtain ⟨m, hm, i', ys', e', hi', F', j', hD', hy'⟩ := hr
        exact ⟨m, hm, i', ys', e', hi', F', j', hD', hy', hk6⟩
      | error e => exact hr
  · have : i = (PsS z).length := Nat.le_antisymm hi (Nat.not_lt.mp hlt)
    subst this
    refine it.done (B := D :: B) hA F1.st j1 fun s2 N2 => ?_
    have hIn : ∀ o, s1.heap.get? I = some o → ∀ its n, o.data ≠ .seq its n := by
      obtain ⟨o, e, vs, hd⟩ := it.live (B := D :: B) j1
      exact noseq_fields e hd
    exact wpAny_pure (hR s2 ys (stepI F1 j1 N2) (plN hD1 N2 (fun q => hne (List.mem_singleton.mp q))) (hy1.st (Mv.of1 N2 hIn)))

/-- a comprehension of two sources -/
theorem EV.comp2S {elt i1 i2 : Expr} {x y : Str} {px py : Pos} {scope : Scope} {pos : Pos} {z : Str} (Ps2 : Nat → List VP) (R2 : Nat → Nat → VP) (G' : List (Str × VP)) (O' : List Str)
    (W : WW w b mg mb bm ob) (hA : A.handled = none) (hz : EV w b A env G i1 (strV z)) (hasc : z.cps.all (· < 128) = true)
    (hk : scope.kind = .function) (nd : (scope.names.map (·.1)).Nodup) (hc : Caps scope env G G') (hcl : ∀ n ∈ scope.names, n.2 = .free → (env.cells.lookup n.1).isSome = true)
    (hO : ∀ C : Addr, ∀ y ∈ O', ((cellsFrom (C + 1) scope.names []).lookup y).isSome = true)
    (hx : (relabel scope env).names.lookup x = some .local ∨ ((relabel scope env).names.lookup x = some .cell ∧ x ∈ O')) (hy : (relabel scope env).names.lookup y = some .local ∨ ((relabel scope env).names.lookup y = some .cell ∧ y ∈ O'))
    (hGx : G'.lookup x = none) (hGy : G'.lookup y = none) (hxy : (y == x) = false) (hsz : ∀ i, i ≤ (PsS z).length → (flat (fun i => (List.range (Ps2 i).length).map (R2 i)) i).length ≤ 100000)
    (hnames : ∀ x ∈ scope.names, x.2 = .local → scope.names.lookup x.1 = some .local)
    (src : ∀ (C : Addr) i c u, z.cps.toList[i]? = some c → 1 ≤ u → IEu w b A (inner scope C env) ((x, isV (.str ⟨#[c]⟩ u)) :: G') i2 (Ps2 i) u)
    (turn : ∀ (C : Addr) i c u, z.cps.toList[i]? = some c → ∀ j P2, (Ps2 i)[j]? = some P2 → EV w b A (inner scope C env) ((y, P2) :: (x, isV (.str ⟨#[c]⟩ u)) :: G') elt (R2 i j))
    (hs : ∀ x, foldedSetIterable i1 env x = pure x := by intro _; rfl) (hs2 : ∀ (C : Addr) v, foldedSetIterable i2 (inner scope C env) v = pure v := by intro _ _; rfl) :
    ∀ (O : List Str) (B : List Addr) (s₀ s : Shared) (Q : Value → Shared → Prop) (E : Value → Shared → Prop), Fm b O B env s₀ G s → 1 ≤ s.toks → (∀ v s', Nx b [] s s' → (lstV (flat (fun i => (List.range (Ps2 i).length).map (R2 i)) (PsS z).length)).p B v s'.heap → Q v s') → wpAny (model PW w) A (eval (lc2 elt (.Name x px) i1 (.Name y py) i2 scope pos) env) Q E s := fun O B s₀ s Q E F hk0 hq => by
  rw [eval_ListComp]
  refine wpAny_comprehension_free (use := none) rfl hs (closureFor_eq hcl) hk hnames (wpAny_toks hk0 (hz O B s₀ s _ _ F fun v s9 N9 ⟨tz, e9⟩ hk9 => ?_))
  subst e9
  refine wpAny_pyIter_ascii hasc ?_
  have NI := Nx.push N9.st (o := { cls := .type "str_ascii_iterator", data := .fields #[.str z tz, .int 0 0] })
  have gI : 232 < s9.heap.objs.size := N9.st.lt W
  have fIb : b.get? s9.heap.objs.size = none := N9.st.fresh (Nat.le_refl _)
  have hI : s.heap.objs.size ≤ s9.heap.objs.size := N9.sz
  have it : Itr w b s9.heap.objs.size (PsS z) (fun _ i h => h.IsStrIter s9.heap.objs.size "str_ascii_iterator" z tz i) := strItr gI fIb
  have N1 := N9.tr NI
  have j0 : (s9.heap.push { cls := .type "str_ascii_iterator", data := .fields #[.str z tz, .int 0 0] }).IsStrIter s9.heap.objs.size "str_ascii_iterator" z tz 0 := ⟨_, Heap.get?_push_size _ rfl, rfl, rfl⟩
  generalize hI9 : s9.heap.objs.size = I at *
  generalize hs1 : ({ s9 with heap := s9.heap.push { cls := .type "str_ascii_iterator", data := .fields #[.str z tz, .int 0 0] } } : Shared) = s1 at *
  have hk1 : 1 ≤ s1.toks := by rw [← hs1]; exact hk9
  have j0 : s1.heap.IsStrIter I "str_ascii_iterator" z tz 0 := by rw [← hs1]; exact j0
  have F1 := F.step N1
  refine wpAny_newObj_type ?_
  have N₂ := Nx.push F1.st (o := { cls := .type "list", data := .seq ([] : List Value).toArray })
  have F₂ := (F1.step N₂)
  have hD : s1.heap.get? s1.heap.objs.size = none := by
    cases e : s1.heap.get? s1.heap.objs.size with
    | none => rfl
    | some o => exact absurd (Heap.lt_size e) (Nat.lt_irrefl _)
  have gD : 232 < s1.heap.objs.size := F1.st.lt W
  have extB : ∀ (P : VP) v, P.p B v s1.heap → P.p (s1.heap.objs.size :: B) v (s1.heap.push { cls := .type "list", data := .seq ([] : List Value).toArray }) := fun P v h => P.st (Mv.of0 N₂) (P.ext hD h)
  have F₂' : Fm b O (s1.heap.objs.size :: B) env s₀ G { s1 with heap := s1.heap.push { cls := .type "list", data := .seq ([] : List Value).toArray } } := by
    obtain ⟨m, hn, hv⟩ := F1.vars
    refine ⟨F₂.nx, F₂.ks, F₂.gl, F₂.bl, F₂.gL, F₂.fL, F₂.bf, fun d hd => ?_, F₂.lc, F₂.own, m, ns_nx hn N₂ F.gL, fun y P e => ?_⟩
    · rcases List.mem_cons.mp hd with rfl | hd
      · show _ < (s1.heap.push _).objs.size; rw [Heap.size_push]; exact Nat.lt_succ_self _
      · exact F₂.lB d hd
    · obtain ⟨v, hp, hh⟩ := hv y P e
      refine ⟨v, extB P v hp, ?_⟩
      rcases hh with hh | ⟨hk, c, hc, g, hcl⟩
      · exact .inl hh
      · exact .inr ⟨hk, c, hc, g, cell_nx hcl N₂ g⟩
  refine nfe ?_
  obtain ⟨F₃, N₃⟩ := inner_start (scope := scope) (G' := G') (O' := O') F₂' W hk nd hc (hO _)
  have F₃' := (F₃.rebase N₂.st (Nx.refl N₂.st)).rebase F.st (N1.tr N₂)
  have N₂₃ := N₂.tr N₃
  have hj₃ := it.frame (B := s1.heap.objs.size :: B) j0 N₂₃ List.not_mem_nil (fun _ h => nomatch h)
  have hDl : (pushCells ((s1.heap.push { cls := .type "list", data := .seq ([] : List Value).toArray }).push { cls := .type "dict", data := .dict #[] }) scope.names).PlainList s1.heap.objs.size #[] := ⟨0, pushCells_keeps _ _ _ _ (Heap.get?_push_of_some _ (Heap.get?_push_size _ rfl))⟩
  have loop : codeAny (model PW w) A (.compLoop (lc2 elt (.Name x px) i1 (.Name y py) i2 scope pos) 0 (.ref I) (.ref s1.heap.objs.size) (inner scope (s1.heap.push { cls := .type "list", data := .seq ([] : List Value).toArray }).objs.size env))
      (compPost (model PW w) A E none Q (.ref s1.heap.objs.size) (s1.heap.push { cls := .type "list", data := .seq ([] : List Value).toArray }).objs.size) { s1 with heap := pushCells ((s1.heap.push { cls := .type "list", data := .seq ([] : List Value).toArray }).push { cls := .type "dict", data := .dict #[] }) scope.names } := by
    refine comp_outS (Ps2 := Ps2) (R2 := R2) W hA hasc gI fIb hk1 F₃' hI N1.sz gD hx hy hGx hGy hxy hj₃ hDl hsz (src _) (turn _) (fun s' ys F' hD' hy' => ?_) (hs2 _)
    obtain ⟨m, hn, _⟩ := F'.vars
    have fC : s.heap.objs.size ≤ (s1.heap.push { cls := .type "list", data := .seq ([] : List Value).toArray }).objs.size := Nat.le_trans N1.sz N₂.sz
    refine ⟨m, hn, fun h' hs' => ?_⟩
    have hC : b.get? _ = none := F.st.fresh fC
    have N' := Nx.same (tk := s'.toks) F'.st hs' (N₂.st.lt W) hC (NC.ns hn)
    refine hq _ _ (F'.nx.trans N' (fun _ h => nomatch h) (fun c hc => .inr (by rw [List.mem_singleton.mp hc]; exact fC))) ((lstV _).st (Mv.of1 N' (ns_noseq hn)) ⟨_, ys, rfl, gD, fun q => Nat.lt_irrefl _ (F1.lB _ q), hD', hy'.mp fun P v h => P.wk h⟩)
  exact codeAny_compStart2 (by decide) loop (it.self (B := s1.heap.objs.size :: B) hj₃ loop)
end
end Mine
end -- C38
section -- C39
/-! C39: _law_orders -/
set_option maxRecDepth 100000
namespace Mine
open PySem PySem.W PySem.Calls PyProof.Rows Builtin
set_option maxHeartbeats 1000000

noncomputable def rep (x : Str) (c : Nat) : Str := Txt.replace x ⟨#[c]⟩ (Str.ofString "")
noncomputable def permsF : Nat → Str → List Str
  | 0, _ => [Str.ofString ""]
  | n + 1, x => x.cps.toList.flatMap fun c => (permsF n (rep x c)).map fun r => (⟨#[c]⟩ : Str) ++ r
noncomputable def okF : Nat → Str → Bool
  | 0, x => x == Str.ofString ""
  | n + 1, x => !(x == Str.ofString "") && decide (x.length ≤ 1000) && x.cps.all (· < 128) && decide ((permsF (n + 1) x).length ≤ 100000) && x.cps.toList.all fun c => okF n (rep x c) && (permsF n (rep x c)).all fun r => decide (r.length ≤ 1000)
theorem permsF_succ (n : Nat) (x : Str) : permsF (n + 1) x = x.cps.toList.flatMap fun c => (permsF n (rep x c)).map fun r => (⟨#[c]⟩ : Str) ++ r := rfl
theorem okF_abc : okF 3 (Str.ofString "abc") = true := by decide +kernel
theorem permsF_abc : permsF 3 (Str.ofString "abc") = perms := by decide +kernel

theorem flat_flatMap {α : Type} (l : List α) (f : α → List VP) (d : α) : ∀ n, n ≤ l.length → flat (fun i => f (l.getD i d)) n = (l.take n).flatMap f
  | 0, _ => rfl
  | n + 1, h => by
    rw [flat, flat_flatMap l f d n (by omega), List.take_add_one, List.flatMap_append, List.getD_eq_getElem?_getD, List.getElem?_eq_getElem (by omega)]
    simp
theorem range_map_getD {α β : Type} (l : List α) (f : α → β) (d : α) : (List.range l.length).map (fun j => f (l.getD j d)) = l.map f := by
  apply List.ext_getElem
  · simp
  · intro i h1 h2
    simp at h1
    simp [h1]
theorem lst_len {α : Type} (l : List (List α)) (n : Nat) : ((l.take n).flatten).length ≤ l.flatten.length := by
  conv => rhs; rw [← List.take_append_drop n l, List.flatten_append, List.length_append]
  omega

section
variable {w : World} {E : Value → Shared → Prop} {s s₀ : Shared} {b : Heap} {mg mb : Str → Option Value} {bm : Addr} {ob : Obj} {env : Env} {G : List (Str × VP)} {B : List Addr} {O : List Str}

theorem EV.mono {A : Around} {e : Expr} {P P' : VP} (h : EV w b A env G e P) (hp : ∀ B v h, P.p B v h → P'.p B v h) : EV w b A env G e P' := fun O B s₀ s Q E F hq => h O B s₀ s Q E F fun v s' N p => hq v s' N (hp _ _ _ p)

theorem law_orders (W : WW w b mg mb bm ob) : ∀ (n : Nat) (x : Str), okF n x = true → ∀ {A : Around}, A.handled = none → A.depth + n < 700 → CS w b A (.ref 203) [strV x] (strsV (permsF n x)) := by
  intro n
  induction n with
  | zero =>
    intro x hok A hA hD
    have hx : x = Str.ofString "" := by simpa [okF] using hok
    subst hx
    refine CS.def (f := 203) (ns := [Str.ofString "letters"]) [] W (Nat.lt_trans hD (by decide)) rfl rfl (by kernel_rfl) rfl rfl rfl rfl (by decide)
      (fun vs h => by obtain ⟨a, rfl⟩ := len1 h; rfl) (fun L x hx => by rw [List.mem_singleton.mp hx]; exact .inr ⟨rfl, rfl⟩) (fun L x hx => nomatch hx) fun L A₁ hA₁ hD₁ hU₁ => ?_
    exact XV.ifret (c := (Str.ofString "" == Str.ofString "")) (TV.eqs .name .str) (fun _ => XV.ret (EV.list W (.cons .str .nil) (show 1 ≤ 1000 by decide))) (fun h => by simp at h)
  | succ n ih =>
    intro x hok A hA hD
    simp only [okF, Bool.and_eq_true, Bool.not_eq_true', decide_eq_true_eq, List.all_eq_true] at hok
    obtain ⟨⟨⟨⟨hne, hxl⟩, hasc⟩, hpl⟩, hall⟩ := hok
    refine CS.def (f := 203) (ns := [Str.ofString "letters"]) [] W (Nat.lt_trans (Nat.lt_of_le_of_lt (Nat.le_add_right _ _) hD) (by decide)) rfl rfl (by kernel_rfl) rfl rfl rfl rfl (by decide)
      (fun vs h => by obtain ⟨a, rfl⟩ := len1 h; rfl) (fun L x hx => by rw [List.mem_singleton.mp hx]; exact .inr ⟨rfl, rfl⟩) (fun L x hx => nomatch hx) fun L A₁ hA₁ hD₁ hU₁ => ?_
    have hA₁' := hA₁.trans hA
    intro B s₀ s Q E F hq
    -- if letters == ''
    refine wpAny_execs_cons (wpAny_If (wpAny_isTrue_Compare1 ((EV.name (P := strV x) : EV w b A₁ _ _ _ _) _ _ _ _ _ _ F fun v s1 N1 e => ?_)))
    obtain ⟨t, rfl⟩ := e
    refine wpAny_Constant_str (wpAny_toks (n := 1) (Nat.le_add_left _ _) (PyProof.Rows.eq_str (fun hk => ?_)))
    rw [hne]
    refine wpAny_truthy_bool ?_
    have F1 := (F.step N1).step (Nx.fresh N1.st (k := s1.toks + 1))
    refine wpAny_execs_nil (wpAny_execs_cons (wpAny_Return_some ?_))
    have nmO : nmOk [(Str.ofString ".0", NameKind.local), (Str.ofString "one", NameKind.local), (Str.ofString "rest", NameKind.local), (Str.ofString "_law_orders", NameKind.globalImplicit), (Str.ofString "letters", NameKind.free)] = true := by decide
    have hflat : ∀ i, i ≤ (PsS x).length → (flat (fun i => (List.range ((permsF n (rep x (x.cps.toList.getD i 0))).map strV).length).map fun j => strV ((⟨#[x.cps.toList.getD i 0]⟩ : Str) ++ (permsF n (rep x (x.cps.toList.getD i 0))).getD j (Str.ofString ""))) i) = ((x.cps.toList.take i).flatMap fun c => (permsF n (rep x c)).map fun r => strV ((⟨#[c]⟩ : Str) ++ r)) := fun i hi => by
      have e := flat_flatMap x.cps.toList (fun c => (List.range ((permsF n (rep x c)).map strV).length).map fun j => strV ((⟨#[c]⟩ : Str) ++ (permsF n (rep x c)).getD j (Str.ofString ""))) 0 i (by rw [PsS, List.length_map] at hi; exact hi)
      rw [e]
      congr 1
      funext c
      rw [List.length_map]
      exact range_map_getD (permsF n (rep x c)) (fun r => strV ((⟨#[c]⟩ : Str) ++ r)) (Str.ofString "")
    have hP : strsV (permsF (n + 1) x) = lstV (flat (fun i => (List.range ((permsF n (rep x (x.cps.toList.getD i 0))).map strV).length).map fun j => strV ((⟨#[x.cps.toList.getD i 0]⟩ : Str) ++ (permsF n (rep x (x.cps.toList.getD i 0))).getD j (Str.ofString ""))) (PsS x).length) := by
      rw [hflat _ (Nat.le_refl _), PsS, List.length_map, List.take_length]
      unfold strsV
      rw [permsF_succ, List.map_flatMap]
      congr 2
      funext c
      rw [List.map_map]
      rfl
    rw [hP] at hq
    refine (EV.comp2S (z := x) (fun i => (permsF n (rep x (x.cps.toList.getD i 0))).map strV) (fun i j => strV ((⟨#[x.cps.toList.getD i 0]⟩ : Str) ++ (permsF n (rep x (x.cps.toList.getD i 0))).getD j (Str.ofString ""))) [(Str.ofString "letters", strV x)] [] W hA₁' .name hasc rfl (nmOk_nd nmO) ⟨⟨⟨rfl, rfl⟩, .inl rfl⟩, trivial⟩ (clOk_of rfl) (fun C y hy => nomatch hy) (.inl rfl) (.inl rfl) rfl rfl rfl
      (fun i hi => ?hsz) (nmOk_of nmO) (fun C i c u hc hu => ?src) (fun C i c u hc j P2 hP2 => ?turn)) [] B s₀ _ _ _ F1 hk (fun v s' N p => hq v s' (F1.nx.tr N) p)
    case hsz =>
      rw [hflat i hi]
      have e1 : ((x.cps.toList.take i).flatMap fun c => (permsF n (rep x c)).map fun r => strV ((⟨#[c]⟩ : Str) ++ r)) = ((x.cps.toList.map fun c => (permsF n (rep x c)).map fun r => strV ((⟨#[c]⟩ : Str) ++ r)).take i).flatten := by
        rw [← List.map_take, List.flatMap_def]
      rw [e1]
      refine Nat.le_trans (lst_len _ i) (Nat.le_trans (Nat.le_of_eq ?_) hpl)
      rw [permsF_succ, List.flatMap_def, List.length_flatten, List.length_flatten, List.map_map, List.map_map]
      congr 2
      funext c
      simp
    case src =>
      intro O' B' s₁ s2 Q2 E2 F2 hlt hq2
      have hcm := List.mem_of_getElem? hc
      have hci : x.cps.toList.getD i 0 = c := by rw [List.getD_eq_getElem?_getD, hc]; rfl
      rw [hci] at hq2
      have hokc := (hall c hcm).1
      refine Call_ (nm_glob (v := .ref 203) W F2.st (callWith_K (K := KK w) (F2.st.k W) (by kernel_rfl) (spliced_more (MethodCall_ (wpAny_toks hlt ((EV.name (P := strV x) : EV w b A₁ _ _ _ _) _ _ _ _ _ _ F2 fun v3 s3 N3 p3 hk3 => ?_))))) (by kernel_rfl) F2.ks rfl F2.gl (by decide))
      obtain ⟨t3, rfl⟩ := p3
      refine GM.replace (PyProof.Rows.callWith_method1 (spliced_more (wpAny_toks hk3 ((EV.name (P := isV (.str ⟨#[c]⟩ u)) : EV w b A₁ _ _ _ _) _ _ _ _ _ _ (F2.step N3) fun v4 s4 N4 p4 hk4 => ?_))))
      cases p4
      refine spliced_more (wpAny_Constant_str (spliced_none ?_))
      have hk4' : u < s4.toks := hk4
      refine SC.replaceW (Nat.ne_of_gt hu) (Nat.ne_of_gt (Nat.lt_of_le_of_lt (Nat.zero_le _) hk4')) (Nat.ne_of_lt hk4') (by rfl) (by omega) (by decide) fun t5 k5 => ?_
      have M := (N3.tr N4).tr (Nx.fresh N4.st (k := k5))
      refine spliced_none ⟨M.st.k W, ih (rep x c) hokc hA₁' (by omega) B' _ _ _ _ M.st (F2.step M).lB ⟨⟨t5, rfl⟩, trivial⟩ fun v6 s6 N6 p6 => ?_⟩
      refine ITV.list A₁ B' s6 v6 _ _ hA₁' N6.st (F2.step (M.tr N6)).lB p6 fun I J s7 N7 it j0 hI => ?_
      exact hq2 I J s7 ((M.tr N6).tr N7) it j0 (Nat.le_trans (M.tr N6).sz hI)
    case turn =>
      have hcm := List.mem_of_getElem? hc
      have hci : x.cps.toList.getD i 0 = c := by rw [List.getD_eq_getElem?_getD, hc]; rfl
      rw [hci] at hP2 ⊢
      obtain ⟨r, hr, rfl⟩ := map_get hP2
      have hrl := (hall c hcm).2 r (List.mem_of_getElem? hr)
      have hrd : (permsF n (rep x c)).getD j (Str.ofString "") = r := by rw [List.getD_eq_getElem?_getD, hr]; rfl
      rw [hrd]
      refine .cat (EV.mono (P := isV (.str ⟨#[c]⟩ u)) .name fun B v h e => ⟨u, e⟩) .name ?_
      show 1 + r.length ≤ _
      omega
theorem law_orders_abc {A : Around} (W : WW w b mg mb bm ob) (hA : A.handled = none) (hD : A.depth < 600) : CS w b A (.ref 203) [strV (Str.ofString "abc")] (strsV perms) := by
  have := law_orders W 3 (Str.ofString "abc") okF_abc (A := A) hA (by omega)
  rw [permsF_abc] at this
  exact this
end
end Mine
end -- C39
section -- C40
/-! C40: the plain law's table -/
namespace Mine
noncomputable def stepc (w : Nat) (s : Nat × Nat) (l : Nat) : Nat × Nat :=
  match Nat.ble (s.2 + l) w with
  | true => (s.1, s.2 + l)
  | false => match Nat.beq s.2 0 with
    | true => (s.1, l)
    | false => (s.1 + 1, l)
/-- the number of rows less one -/
noncomputable def cnt (w r : Nat) (x y z u : Nat) : Nat := (stepc w (stepc w (stepc w (stepc w (0, r) x) y) z) u).1
noncomputable def mn (x y : Nat) : Nat := x - (x - y)
noncomputable def mx (x y : Nat) : Nat := x + (y - x)
/-- the less of acc and b where l fits -/
noncomputable def pk (w l b acc : Nat) : Nat := acc - (acc - b) * (1 - (l - w))
noncomputable def minC (w r a b c : Nat) : Nat := (mn (mn (mn (mn (mn (mn (mn (mn (mn (mn (mn (cnt w r a b c c) (cnt w r a c c b)) (cnt w r a c b c)) (cnt w r b a c c)) (cnt w r b c c a)) (cnt w r b c a c)) (cnt w r c c a b)) (cnt w r c a c b)) (cnt w r c a b c)) (cnt w r c c b a)) (cnt w r c b c a)) (cnt w r c b a c))
noncomputable def maxC (w r a b c : Nat) : Nat := (mx (mx (mx (mx (mx (mx (mx (mx (mx (mx (mx (cnt w r a b c c) (cnt w r a c c b)) (cnt w r a c b c)) (cnt w r b a c c)) (cnt w r b c c a)) (cnt w r b c a c)) (cnt w r c c a b)) (cnt w r c a c b)) (cnt w r c a b c)) (cnt w r c c b a)) (cnt w r c b c a)) (cnt w r c b a c))
noncomputable def n1 (w a b c d : Nat) : Nat := (1 + 0)
noncomputable def n2 (w a b c d : Nat) : Nat := (1 + 0)
noncomputable def n3 (w a b c d : Nat) : Nat := (pk w (a + b) (1 + 0) (mn (1 + (n2 w a b c d)) (1 + (n1 w a b c d))))
noncomputable def n4 (w a b c d : Nat) : Nat := (1 + 0)
noncomputable def n5 (w a b c d : Nat) : Nat := (pk w (a + c) (1 + 0) (mn (1 + (n4 w a b c d)) (1 + (n1 w a b c d))))
noncomputable def n6 (w a b c d : Nat) : Nat := (pk w (b + c) (1 + 0) (mn (1 + (n4 w a b c d)) (1 + (n2 w a b c d))))
noncomputable def n7 (w a b c d : Nat) : Nat := (pk w (a + b + c) (1 + 0) (pk w (b + c) (1 + (n1 w a b c d)) (pk w (a + c) (1 + (n2 w a b c d)) (mn (pk w (a + b) (1 + (n4 w a b c d)) (mn (1 + (n6 w a b c d)) (1 + (n5 w a b c d)))) (1 + (n3 w a b c d))))))
noncomputable def n8 (w a b c d : Nat) : Nat := (1 + 0)
noncomputable def n9 (w a b c d : Nat) : Nat := (pk w (a + d) (1 + 0) (mn (1 + (n8 w a b c d)) (1 + (n1 w a b c d))))
noncomputable def n10 (w a b c d : Nat) : Nat := (pk w (b + d) (1 + 0) (mn (1 + (n8 w a b c d)) (1 + (n2 w a b c d))))
noncomputable def n11 (w a b c d : Nat) : Nat := (pk w (a + b + d) (1 + 0) (pk w (b + d) (1 + (n1 w a b c d)) (pk w (a + d) (1 + (n2 w a b c d)) (mn (pk w (a + b) (1 + (n8 w a b c d)) (mn (1 + (n10 w a b c d)) (1 + (n9 w a b c d)))) (1 + (n3 w a b c d))))))
noncomputable def n12 (w a b c d : Nat) : Nat := (pk w (c + d) (1 + 0) (mn (1 + (n8 w a b c d)) (1 + (n4 w a b c d))))
noncomputable def n13 (w a b c d : Nat) : Nat := (pk w (a + c + d) (1 + 0) (pk w (c + d) (1 + (n1 w a b c d)) (pk w (a + d) (1 + (n4 w a b c d)) (mn (pk w (a + c) (1 + (n8 w a b c d)) (mn (1 + (n12 w a b c d)) (1 + (n9 w a b c d)))) (1 + (n5 w a b c d))))))
noncomputable def n14 (w a b c d : Nat) : Nat := (pk w (b + c + d) (1 + 0) (pk w (c + d) (1 + (n2 w a b c d)) (pk w (b + d) (1 + (n4 w a b c d)) (mn (pk w (b + c) (1 + (n8 w a b c d)) (mn (1 + (n12 w a b c d)) (1 + (n10 w a b c d)))) (1 + (n6 w a b c d))))))
noncomputable def n15 (w a b c d : Nat) : Nat := (pk w (a + b + c + d) (1 + 0) (pk w (b + c + d) (1 + (n1 w a b c d)) (pk w (a + c + d) (1 + (n2 w a b c d)) (pk w (c + d) (1 + (n3 w a b c d)) (pk w (a + b + d) (1 + (n4 w a b c d)) (pk w (b + d) (1 + (n5 w a b c d)) (pk w (a + d) (1 + (n6 w a b c d)) (mn (pk w (a + b + c) (1 + (n8 w a b c d)) (pk w (b + c) (1 + (n9 w a b c d)) (pk w (a + c) (1 + (n10 w a b c d)) (mn (pk w (a + b) (1 + (n12 w a b c d)) (mn (1 + (n14 w a b c d)) (1 + (n13 w a b c d)))) (1 + (n11 w a b c d)))))) (1 + (n7 w a b c d))))))))))
noncomputable def bestN (w r a b c d : Nat) : Nat := match Nat.beq r 0 with | true => n15 w a b c d | false => 1 + (pk w (r + (a + b + c + d)) 0 (pk w (r + (b + c + d)) (n1 w a b c d) (pk w (r + (a + c + d)) (n2 w a b c d) (pk w (r + (c + d)) (n3 w a b c d) (pk w (r + (a + b + d)) (n4 w a b c d) (pk w (r + (b + d)) (n5 w a b c d) (pk w (r + (a + d)) (n6 w a b c d) (pk w (r + (d)) (n7 w a b c d) (pk w (r + (a + b + c)) (n8 w a b c d) (pk w (r + (b + c)) (n9 w a b c d) (pk w (r + (a + c)) (n10 w a b c d) (pk w (r + (c)) (n11 w a b c d) (pk w (r + (a + b)) (n12 w a b c d) (pk w (r + (b)) (n13 w a b c d) (pk w (r + (a)) (n14 w a b c d) (n15 w a b c d))))))))))))))))
noncomputable def okP (w r a b c : Nat) : Bool :=
  match Nat.beq (minC w r a b c + 1) (bestN w r a b c c) with
  | true => Nat.ble (maxC w r a b c + 2) (2 * minC w r a b c + 2)
  | false => false
noncomputable def allP (lo n : Nat) (p : Nat → Bool) : Bool := match n with
  | 0 => true
  | n + 1 => match p (lo + n) with | true => allP lo n p | false => false
theorem allP_get {lo : Nat} {p : Nat → Bool} : ∀ {n : Nat}, allP lo n p = true → ∀ k, lo ≤ k → k < lo + n → p k = true
  | 0, _, k, h1, h2 => absurd h2 (Nat.not_lt.mpr h1)
  | n + 1, h, k, h1, h2 => by
    unfold allP at h
    split at h
    · rename_i q
      by_cases e : k = lo + n
      · rw [e]; exact q
      · exact allP_get h k h1 (by omega)
    · cases h
noncomputable def okAB (a b : Nat) : Bool := allP 2 6 fun c => allP 6 7 fun w => allP 0 9 fun r => okP w r a b c
noncomputable def okAll (a : Nat) : Bool := allP 2 6 fun b => okAB a b
theorem ok2 : okAll 2 = true := by decide +kernel
theorem ok3 : okAll 3 = true := by decide +kernel
theorem ok4' : okAll 4 = true := by decide +kernel
theorem ok5 : okAll 5 = true := by decide +kernel
theorem ok6 : okAll 6 = true := by decide +kernel
theorem ok7 : okAll 7 = true := by decide +kernel
theorem ok_all {a b c w r : Nat} (ha : 2 ≤ a ∧ a < 8) (hb : 2 ≤ b ∧ b < 8) (hc : 2 ≤ c ∧ c < 8) (hw : 6 ≤ w ∧ w < 13) (hr : r < 9) : okP w r a b c = true := by
  have h : okAll a = true := by
    rcases Nat.eq_or_lt_of_le ha.1 with rfl | h
    · exact ok2
    rcases Nat.eq_or_lt_of_le h with rfl | h
    · exact ok3
    rcases Nat.eq_or_lt_of_le h with rfl | h
    · exact ok4'
    rcases Nat.eq_or_lt_of_le h with rfl | h
    · exact ok5
    rcases Nat.eq_or_lt_of_le h with rfl | h
    · exact ok6
    rcases Nat.eq_or_lt_of_le h with rfl | h
    · exact ok7
    exact absurd ha.2 (Nat.not_lt.mpr h)
  exact allP_get (allP_get (allP_get (allP_get h b hb.1 hb.2) c hc.1 hc.2) w hw.1 hw.2) r (Nat.zero_le _) (by omega)
end Mine
end -- C40
section -- C43
/-! C43: the best packing as the table reckons it -/
set_option maxRecDepth 100000
namespace Mine
open PySem PySem.W PySem.Calls PyProof.Rows Builtin
theorem rng_bind {α β : Type} (l : List α) (g : α → Option β) : (List.range l.length).filterMap (fun j => l[j]?.bind g) = l.filterMap g := by
  have key : ∀ n, n ≤ l.length → (List.range n).filterMap (fun j => l[j]?.bind g) = (l.take n).filterMap g := by
    intro n
    induction n with
    | zero => intro _; rfl
    | succ n ih =>
      intro h
      rw [List.range_succ, List.filterMap_append, ih (by omega), List.take_add_one, List.filterMap_append, List.getElem?_eq_getElem (show n < l.length by omega)]
      have e : l[n]? = some l[n] := List.getElem?_eq_getElem (by omega)
      cases hg : g l[n] <;> simp [hg, e]
  rw [key _ (Nat.le_refl _), List.take_length]
theorem minOf_foldl : ∀ (l : List Int) (x : Int), minOf (x :: l) = l.foldl min x
  | [], x => rfl
  | y :: l, x => by
    have h : ∀ (l : List Int) (x y : Int), l.foldl min (min x y) = min x (l.foldl min y) := fun l => by
      induction l with
      | nil => intro x y; rfl
      | cons z l ih => intro x y; rw [List.foldl_cons, List.foldl_cons, Int.min_assoc, ih]
    show min x (minOf (y :: l)) = _
    rw [minOf_foldl l y, List.foldl_cons, h]
theorem foldl_fm {α : Type} (f : α → Option Int) : ∀ (l : List α) (x : Int), (l.filterMap f).foldl min x = l.foldl (fun acc q => match f q with | some y => min acc y | none => acc) x
  | [], _ => rfl
  | q :: l, x => by
    rw [List.filterMap_cons, List.foldl_cons]
    cases h : f q with
    | none => simp only; exact foldl_fm f l x
    | some y => simp only [List.foldl_cons]; exact foldl_fm f l _
noncomputable def Bf (L : List Int) (W : Int) (m : Nat) : Int := (bests L W m).getD m 0
theorem bests_get (L : List Int) (W : Int) (m : Nat) : ∀ n, m ≤ n → (bests L W n).getD m 0 = Bf L W m
  | 0, h => by obtain rfl := Nat.le_zero.mp h; rfl
  | n + 1, h => by
    by_cases e : m = n + 1
    · rw [e]; rfl
    · rw [bests, List.getD_eq_getElem?_getD, List.getElem?_append_left (by rw [bests_len]; omega), ← List.getD_eq_getElem?_getD]
      exact bests_get L W m n (by omega)
noncomputable def oi (l W b acc : Int) : Int := if l ≤ W then min acc b else acc
noncomputable def fstep (L : List Int) (W : Int) (m : Nat) (acc : Int) (q : Int) : Int := match (if passes L W q = true then some (1 + (bests L W m).getD (bitXor ((m + 1 : Nat) : Int) q).toNat 0) else none) with | some y => min acc y | none => acc
theorem fs1 {L : List Int} {W : Int} {m : Nat} {acc q : Int} {k : Nat} (hq : isBit q = true) (hx : (bitXor ((m + 1 : Nat) : Int) q).toNat = k) (hk : k ≤ m) : fstep L W m acc q = min acc (1 + Bf L W k) := by
  unfold fstep passes
  rw [hq, hx, bests_get L W k m hk, Bool.true_or, Bool.or_true, if_pos rfl]
theorem fs2 {L : List Int} {W : Int} {m : Nat} {acc q : Int} {k : Nat} (hq : isBit q = false) (hx : (bitXor ((m + 1 : Nat) : Int) q).toNat = k) (hk : k ≤ m) : fstep L W m acc q = oi (L.getD q.toNat 0) W (1 + Bf L W k) acc := by
  unfold fstep passes oi
  rw [hq, hx, bests_get L W k m hk, Bool.or_false, Bool.or_false]
  by_cases h : L.getD q.toNat 0 ≤ W
  · rw [decide_eq_true h, if_pos rfl, if_pos h]
  · rw [decide_eq_false h, if_neg (by decide), if_neg h]
theorem best_step {L : List Int} {W : Int} (m : Nat) {q0 : Int} {qs : List Int} {k : Nat} (hp : partsOf (m + 1) = q0 :: qs) (hb : isBit q0 = true) (hx : (bitXor ((m + 1 : Nat) : Int) q0).toNat = k) (hk : k ≤ m) : Bf L W (m + 1) = qs.foldl (fstep L W m) (1 + Bf L W k) := by
  have e : Bf L W (m + 1) = minOf (cands L W (bests L W m) (m + 1)) := by
    unfold Bf
    rw [bests, List.getD_eq_getElem?_getD, List.getElem?_append_right (by rw [bests_len]; exact Nat.le_refl _), bests_len, Nat.sub_self]
    rfl
  have e2 : cands L W (bests L W m) (m + 1) = (partsOf (m + 1)).filterMap fun q => if passes L W q = true then some (1 + (bests L W m).getD (bitXor ((m + 1 : Nat) : Int) q).toNat 0) else none := rng_bind (partsOf (m + 1)) _
  have e3 : passes L W q0 = true := by unfold passes; rw [hb, Bool.true_or, Bool.or_true]
  rw [e, e2, hp, List.filterMap_cons, e3, if_pos rfl]
  simp only
  rw [minOf_foldl, foldl_fm, hx, bests_get L W k m hk]
  rfl
theorem mn_cast (x y : Nat) : min (x : Int) (y : Int) = ((mn x y : Nat) : Int) := by
  unfold mn
  rcases Nat.le_total x y with h | h
  · rw [Int.min_eq_left (Int.ofNat_le.mpr h), Nat.sub_eq_zero_of_le h, Nat.sub_zero]
  · rw [Int.min_eq_right (Int.ofNat_le.mpr h), Nat.sub_sub_self h]
theorem pk_cast (l w b acc : Nat) : oi (l : Int) (w : Int) (b : Int) (acc : Int) = ((pk w l b acc : Nat) : Int) := by
  unfold oi pk
  by_cases h : l ≤ w
  · rw [if_pos (Int.ofNat_le.mpr h), Nat.sub_eq_zero_of_le h, Nat.sub_zero, Nat.mul_one, mn_cast]; rfl
  · rw [if_neg (fun e => h (Int.ofNat_le.mp e)), Nat.sub_eq_zero_of_le (Nat.sub_pos_of_lt (Nat.lt_of_not_le h)), Nat.mul_zero, Nat.sub_zero]
theorem add_cast1 (x : Nat) : 1 + (x : Int) = ((1 + x : Nat) : Int) := by omega

theorem bf1 (L : List Int) (W : Int) : Bf L W 1 = (1 + (Bf L W 0)) := by
  rw [best_step 0 (q0 := 1) (qs := []) (k := 0) (by decide +kernel) (by decide) (by decide +kernel) (by decide)]
  simp only [List.foldl_cons, List.foldl_nil]

theorem bf2 (L : List Int) (W : Int) : Bf L W 2 = (1 + (Bf L W 0)) := by
  rw [best_step 1 (q0 := 2) (qs := []) (k := 0) (by decide +kernel) (by decide) (by decide +kernel) (by decide)]
  simp only [List.foldl_cons, List.foldl_nil]

theorem bf3 (L : List Int) (W : Int) : Bf L W 3 = (oi (L.getD 3 0) W (1 + (Bf L W 0)) (min (1 + (Bf L W 2)) (1 + (Bf L W 1)))) := by
  rw [best_step 2 (q0 := 1) (qs := [2, 3]) (k := 2) (by decide +kernel) (by decide) (by decide +kernel) (by decide)]
  simp only [List.foldl_cons, List.foldl_nil]
  rw [fs1 (q := 2) (k := 1) (by decide) (by decide +kernel) (by decide)]
  rw [fs2 (q := 3) (k := 0) (by decide) (by decide +kernel) (by decide)]
  rfl
theorem bf4 (L : List Int) (W : Int) : Bf L W 4 = (1 + (Bf L W 0)) := by
  rw [best_step 3 (q0 := 4) (qs := []) (k := 0) (by decide +kernel) (by decide) (by decide +kernel) (by decide)]
  simp only [List.foldl_cons, List.foldl_nil]

theorem bf5 (L : List Int) (W : Int) : Bf L W 5 = (oi (L.getD 5 0) W (1 + (Bf L W 0)) (min (1 + (Bf L W 4)) (1 + (Bf L W 1)))) := by
  rw [best_step 4 (q0 := 1) (qs := [4, 5]) (k := 4) (by decide +kernel) (by decide) (by decide +kernel) (by decide)]
  simp only [List.foldl_cons, List.foldl_nil]
  rw [fs1 (q := 4) (k := 1) (by decide) (by decide +kernel) (by decide)]
  rw [fs2 (q := 5) (k := 0) (by decide) (by decide +kernel) (by decide)]
  rfl
theorem bf6 (L : List Int) (W : Int) : Bf L W 6 = (oi (L.getD 6 0) W (1 + (Bf L W 0)) (min (1 + (Bf L W 4)) (1 + (Bf L W 2)))) := by
  rw [best_step 5 (q0 := 2) (qs := [4, 6]) (k := 4) (by decide +kernel) (by decide) (by decide +kernel) (by decide)]
  simp only [List.foldl_cons, List.foldl_nil]
  rw [fs1 (q := 4) (k := 2) (by decide) (by decide +kernel) (by decide)]
  rw [fs2 (q := 6) (k := 0) (by decide) (by decide +kernel) (by decide)]
  rfl
theorem bf7 (L : List Int) (W : Int) : Bf L W 7 = (oi (L.getD 7 0) W (1 + (Bf L W 0)) (oi (L.getD 6 0) W (1 + (Bf L W 1)) (oi (L.getD 5 0) W (1 + (Bf L W 2)) (min (oi (L.getD 3 0) W (1 + (Bf L W 4)) (min (1 + (Bf L W 6)) (1 + (Bf L W 5)))) (1 + (Bf L W 3)))))) := by
  rw [best_step 6 (q0 := 1) (qs := [2, 3, 4, 5, 6, 7]) (k := 6) (by decide +kernel) (by decide) (by decide +kernel) (by decide)]
  simp only [List.foldl_cons, List.foldl_nil]
  rw [fs1 (q := 2) (k := 5) (by decide) (by decide +kernel) (by decide)]
  rw [fs2 (q := 3) (k := 4) (by decide) (by decide +kernel) (by decide)]
  rw [fs1 (q := 4) (k := 3) (by decide) (by decide +kernel) (by decide)]
  rw [fs2 (q := 5) (k := 2) (by decide) (by decide +kernel) (by decide)]
  rw [fs2 (q := 6) (k := 1) (by decide) (by decide +kernel) (by decide)]
  rw [fs2 (q := 7) (k := 0) (by decide) (by decide +kernel) (by decide)]
  rfl
theorem bf8 (L : List Int) (W : Int) : Bf L W 8 = (1 + (Bf L W 0)) := by
  rw [best_step 7 (q0 := 8) (qs := []) (k := 0) (by decide +kernel) (by decide) (by decide +kernel) (by decide)]
  simp only [List.foldl_cons, List.foldl_nil]

theorem bf9 (L : List Int) (W : Int) : Bf L W 9 = (oi (L.getD 9 0) W (1 + (Bf L W 0)) (min (1 + (Bf L W 8)) (1 + (Bf L W 1)))) := by
  rw [best_step 8 (q0 := 1) (qs := [8, 9]) (k := 8) (by decide +kernel) (by decide) (by decide +kernel) (by decide)]
  simp only [List.foldl_cons, List.foldl_nil]
  rw [fs1 (q := 8) (k := 1) (by decide) (by decide +kernel) (by decide)]
  rw [fs2 (q := 9) (k := 0) (by decide) (by decide +kernel) (by decide)]
  rfl
theorem bf10 (L : List Int) (W : Int) : Bf L W 10 = (oi (L.getD 10 0) W (1 + (Bf L W 0)) (min (1 + (Bf L W 8)) (1 + (Bf L W 2)))) := by
  rw [best_step 9 (q0 := 2) (qs := [8, 10]) (k := 8) (by decide +kernel) (by decide) (by decide +kernel) (by decide)]
  simp only [List.foldl_cons, List.foldl_nil]
  rw [fs1 (q := 8) (k := 2) (by decide) (by decide +kernel) (by decide)]
  rw [fs2 (q := 10) (k := 0) (by decide) (by decide +kernel) (by decide)]
  rfl
theorem bf11 (L : List Int) (W : Int) : Bf L W 11 = (oi (L.getD 11 0) W (1 + (Bf L W 0)) (oi (L.getD 10 0) W (1 + (Bf L W 1)) (oi (L.getD 9 0) W (1 + (Bf L W 2)) (min (oi (L.getD 3 0) W (1 + (Bf L W 8)) (min (1 + (Bf L W 10)) (1 + (Bf L W 9)))) (1 + (Bf L W 3)))))) := by
  rw [best_step 10 (q0 := 1) (qs := [2, 3, 8, 9, 10, 11]) (k := 10) (by decide +kernel) (by decide) (by decide +kernel) (by decide)]
  simp only [List.foldl_cons, List.foldl_nil]
  rw [fs1 (q := 2) (k := 9) (by decide) (by decide +kernel) (by decide)]
  rw [fs2 (q := 3) (k := 8) (by decide) (by decide +kernel) (by decide)]
  rw [fs1 (q := 8) (k := 3) (by decide) (by decide +kernel) (by decide)]
  rw [fs2 (q := 9) (k := 2) (by decide) (by decide +kernel) (by decide)]
  rw [fs2 (q := 10) (k := 1) (by decide) (by decide +kernel) (by decide)]
  rw [fs2 (q := 11) (k := 0) (by decide) (by decide +kernel) (by decide)]
  rfl
theorem bf12 (L : List Int) (W : Int) : Bf L W 12 = (oi (L.getD 12 0) W (1 + (Bf L W 0)) (min (1 + (Bf L W 8)) (1 + (Bf L W 4)))) := by
  rw [best_step 11 (q0 := 4) (qs := [8, 12]) (k := 8) (by decide +kernel) (by decide) (by decide +kernel) (by decide)]
  simp only [List.foldl_cons, List.foldl_nil]
  rw [fs1 (q := 8) (k := 4) (by decide) (by decide +kernel) (by decide)]
  rw [fs2 (q := 12) (k := 0) (by decide) (by decide +kernel) (by decide)]
  rfl
theorem bf13 (L : List Int) (W : Int) : Bf L W 13 = (oi (L.getD 13 0) W (1 + (Bf L W 0)) (oi (L.getD 12 0) W (1 + (Bf L W 1)) (oi (L.getD 9 0) W (1 + (Bf L W 4)) (min (oi (L.getD 5 0) W (1 + (Bf L W 8)) (min (1 + (Bf L W 12)) (1 + (Bf L W 9)))) (1 + (Bf L W 5)))))) := by
  rw [best_step 12 (q0 := 1) (qs := [4, 5, 8, 9, 12, 13]) (k := 12) (by decide +kernel) (by decide) (by decide +kernel) (by decide)]
  simp only [List.foldl_cons, List.foldl_nil]
  rw [fs1 (q := 4) (k := 9) (by decide) (by decide +kernel) (by decide)]
  rw [fs2 (q := 5) (k := 8) (by decide) (by decide +kernel) (by decide)]
  rw [fs1 (q := 8) (k := 5) (by decide) (by decide +kernel) (by decide)]
  rw [fs2 (q := 9) (k := 4) (by decide) (by decide +kernel) (by decide)]
  rw [fs2 (q := 12) (k := 1) (by decide) (by decide +kernel) (by decide)]
  rw [fs2 (q := 13) (k := 0) (by decide) (by decide +kernel) (by decide)]
  rfl
theorem bf14 (L : List Int) (W : Int) : Bf L W 14 = (oi (L.getD 14 0) W (1 + (Bf L W 0)) (oi (L.getD 12 0) W (1 + (Bf L W 2)) (oi (L.getD 10 0) W (1 + (Bf L W 4)) (min (oi (L.getD 6 0) W (1 + (Bf L W 8)) (min (1 + (Bf L W 12)) (1 + (Bf L W 10)))) (1 + (Bf L W 6)))))) := by
  rw [best_step 13 (q0 := 2) (qs := [4, 6, 8, 10, 12, 14]) (k := 12) (by decide +kernel) (by decide) (by decide +kernel) (by decide)]
  simp only [List.foldl_cons, List.foldl_nil]
  rw [fs1 (q := 4) (k := 10) (by decide) (by decide +kernel) (by decide)]
  rw [fs2 (q := 6) (k := 8) (by decide) (by decide +kernel) (by decide)]
  rw [fs1 (q := 8) (k := 6) (by decide) (by decide +kernel) (by decide)]
  rw [fs2 (q := 10) (k := 4) (by decide) (by decide +kernel) (by decide)]
  rw [fs2 (q := 12) (k := 2) (by decide) (by decide +kernel) (by decide)]
  rw [fs2 (q := 14) (k := 0) (by decide) (by decide +kernel) (by decide)]
  rfl
theorem bf15 (L : List Int) (W : Int) : Bf L W 15 = (oi (L.getD 15 0) W (1 + (Bf L W 0)) (oi (L.getD 14 0) W (1 + (Bf L W 1)) (oi (L.getD 13 0) W (1 + (Bf L W 2)) (oi (L.getD 12 0) W (1 + (Bf L W 3)) (oi (L.getD 11 0) W (1 + (Bf L W 4)) (oi (L.getD 10 0) W (1 + (Bf L W 5)) (oi (L.getD 9 0) W (1 + (Bf L W 6)) (min (oi (L.getD 7 0) W (1 + (Bf L W 8)) (oi (L.getD 6 0) W (1 + (Bf L W 9)) (oi (L.getD 5 0) W (1 + (Bf L W 10)) (min (oi (L.getD 3 0) W (1 + (Bf L W 12)) (min (1 + (Bf L W 14)) (1 + (Bf L W 13)))) (1 + (Bf L W 11)))))) (1 + (Bf L W 7)))))))))) := by
  rw [best_step 14 (q0 := 1) (qs := [2, 3, 4, 5, 6, 7, 8, 9, 10, 11, 12, 13, 14, 15]) (k := 14) (by decide +kernel) (by decide) (by decide +kernel) (by decide)]
  simp only [List.foldl_cons, List.foldl_nil]
  rw [fs1 (q := 2) (k := 13) (by decide) (by decide +kernel) (by decide)]
  rw [fs2 (q := 3) (k := 12) (by decide) (by decide +kernel) (by decide)]
  rw [fs1 (q := 4) (k := 11) (by decide) (by decide +kernel) (by decide)]
  rw [fs2 (q := 5) (k := 10) (by decide) (by decide +kernel) (by decide)]
  rw [fs2 (q := 6) (k := 9) (by decide) (by decide +kernel) (by decide)]
  rw [fs2 (q := 7) (k := 8) (by decide) (by decide +kernel) (by decide)]
  rw [fs1 (q := 8) (k := 7) (by decide) (by decide +kernel) (by decide)]
  rw [fs2 (q := 9) (k := 6) (by decide) (by decide +kernel) (by decide)]
  rw [fs2 (q := 10) (k := 5) (by decide) (by decide +kernel) (by decide)]
  rw [fs2 (q := 11) (k := 4) (by decide) (by decide +kernel) (by decide)]
  rw [fs2 (q := 12) (k := 3) (by decide) (by decide +kernel) (by decide)]
  rw [fs2 (q := 13) (k := 2) (by decide) (by decide +kernel) (by decide)]
  rw [fs2 (q := 14) (k := 1) (by decide) (by decide +kernel) (by decide)]
  rw [fs2 (q := 15) (k := 0) (by decide) (by decide +kernel) (by decide)]
  rfl
theorem bf0 (L : List Int) (W : Int) : Bf L W 0 = 0 := rfl
theorem ld1 (a b c d : Nat) : (loadsOf [(a : Int), (b : Int), (c : Int), (d : Int)]).getD 1 0 = (((a) : Nat) : Int) := by
  have e : (loadsOf [(a : Int), (b : Int), (c : Int), (d : Int)]).getD 1 0 = ((a : Int) + 0) := by kernel_rfl
  rw [e]; omega
theorem ld2 (a b c d : Nat) : (loadsOf [(a : Int), (b : Int), (c : Int), (d : Int)]).getD 2 0 = (((b) : Nat) : Int) := by
  have e : (loadsOf [(a : Int), (b : Int), (c : Int), (d : Int)]).getD 2 0 = ((b : Int) + 0) := by kernel_rfl
  rw [e]; omega
theorem ld3 (a b c d : Nat) : (loadsOf [(a : Int), (b : Int), (c : Int), (d : Int)]).getD 3 0 = (((a + b) : Nat) : Int) := by
  have e : (loadsOf [(a : Int), (b : Int), (c : Int), (d : Int)]).getD 3 0 = ((a : Int) + ((b : Int) + 0)) := by kernel_rfl
  rw [e]; omega
theorem ld4 (a b c d : Nat) : (loadsOf [(a : Int), (b : Int), (c : Int), (d : Int)]).getD 4 0 = (((c) : Nat) : Int) := by
  have e : (loadsOf [(a : Int), (b : Int), (c : Int), (d : Int)]).getD 4 0 = ((c : Int) + 0) := by kernel_rfl
  rw [e]; omega
theorem ld5 (a b c d : Nat) : (loadsOf [(a : Int), (b : Int), (c : Int), (d : Int)]).getD 5 0 = (((a + c) : Nat) : Int) := by
  have e : (loadsOf [(a : Int), (b : Int), (c : Int), (d : Int)]).getD 5 0 = ((a : Int) + ((c : Int) + 0)) := by kernel_rfl
  rw [e]; omega
theorem ld6 (a b c d : Nat) : (loadsOf [(a : Int), (b : Int), (c : Int), (d : Int)]).getD 6 0 = (((b + c) : Nat) : Int) := by
  have e : (loadsOf [(a : Int), (b : Int), (c : Int), (d : Int)]).getD 6 0 = ((b : Int) + ((c : Int) + 0)) := by kernel_rfl
  rw [e]; omega
theorem ld7 (a b c d : Nat) : (loadsOf [(a : Int), (b : Int), (c : Int), (d : Int)]).getD 7 0 = (((a + b + c) : Nat) : Int) := by
  have e : (loadsOf [(a : Int), (b : Int), (c : Int), (d : Int)]).getD 7 0 = ((a : Int) + ((b : Int) + ((c : Int) + 0))) := by kernel_rfl
  rw [e]; omega
theorem ld8 (a b c d : Nat) : (loadsOf [(a : Int), (b : Int), (c : Int), (d : Int)]).getD 8 0 = (((d) : Nat) : Int) := by
  have e : (loadsOf [(a : Int), (b : Int), (c : Int), (d : Int)]).getD 8 0 = ((d : Int) + 0) := by kernel_rfl
  rw [e]; omega
theorem ld9 (a b c d : Nat) : (loadsOf [(a : Int), (b : Int), (c : Int), (d : Int)]).getD 9 0 = (((a + d) : Nat) : Int) := by
  have e : (loadsOf [(a : Int), (b : Int), (c : Int), (d : Int)]).getD 9 0 = ((a : Int) + ((d : Int) + 0)) := by kernel_rfl
  rw [e]; omega
theorem ld10 (a b c d : Nat) : (loadsOf [(a : Int), (b : Int), (c : Int), (d : Int)]).getD 10 0 = (((b + d) : Nat) : Int) := by
  have e : (loadsOf [(a : Int), (b : Int), (c : Int), (d : Int)]).getD 10 0 = ((b : Int) + ((d : Int) + 0)) := by kernel_rfl
  rw [e]; omega
theorem ld11 (a b c d : Nat) : (loadsOf [(a : Int), (b : Int), (c : Int), (d : Int)]).getD 11 0 = (((a + b + d) : Nat) : Int) := by
  have e : (loadsOf [(a : Int), (b : Int), (c : Int), (d : Int)]).getD 11 0 = ((a : Int) + ((b : Int) + ((d : Int) + 0))) := by kernel_rfl
  rw [e]; omega
theorem ld12 (a b c d : Nat) : (loadsOf [(a : Int), (b : Int), (c : Int), (d : Int)]).getD 12 0 = (((c + d) : Nat) : Int) := by
  have e : (loadsOf [(a : Int), (b : Int), (c : Int), (d : Int)]).getD 12 0 = ((c : Int) + ((d : Int) + 0)) := by kernel_rfl
  rw [e]; omega
theorem ld13 (a b c d : Nat) : (loadsOf [(a : Int), (b : Int), (c : Int), (d : Int)]).getD 13 0 = (((a + c + d) : Nat) : Int) := by
  have e : (loadsOf [(a : Int), (b : Int), (c : Int), (d : Int)]).getD 13 0 = ((a : Int) + ((c : Int) + ((d : Int) + 0))) := by kernel_rfl
  rw [e]; omega
theorem ld14 (a b c d : Nat) : (loadsOf [(a : Int), (b : Int), (c : Int), (d : Int)]).getD 14 0 = (((b + c + d) : Nat) : Int) := by
  have e : (loadsOf [(a : Int), (b : Int), (c : Int), (d : Int)]).getD 14 0 = ((b : Int) + ((c : Int) + ((d : Int) + 0))) := by kernel_rfl
  rw [e]; omega
theorem ld15 (a b c d : Nat) : (loadsOf [(a : Int), (b : Int), (c : Int), (d : Int)]).getD 15 0 = (((a + b + c + d) : Nat) : Int) := by
  have e : (loadsOf [(a : Int), (b : Int), (c : Int), (d : Int)]).getD 15 0 = ((a : Int) + ((b : Int) + ((c : Int) + ((d : Int) + 0)))) := by kernel_rfl
  rw [e]; omega
theorem nn0 (a b c d w : Nat) : Bf (loadsOf [(a : Int), (b : Int), (c : Int), (d : Int)]) (w : Int) 0 = ((0 : Nat) : Int) := rfl
theorem nn1 (a b c d w : Nat) : Bf (loadsOf [(a : Int), (b : Int), (c : Int), (d : Int)]) (w : Int) 1 = ((n1 w a b c d : Nat) : Int) := by
  rw [bf1]
  simp only [nn0, add_cast1, mn_cast, pk_cast]
  rfl
theorem nn2 (a b c d w : Nat) : Bf (loadsOf [(a : Int), (b : Int), (c : Int), (d : Int)]) (w : Int) 2 = ((n2 w a b c d : Nat) : Int) := by
  rw [bf2]
  simp only [nn0, add_cast1, mn_cast, pk_cast]
  rfl
theorem nn3 (a b c d w : Nat) : Bf (loadsOf [(a : Int), (b : Int), (c : Int), (d : Int)]) (w : Int) 3 = ((n3 w a b c d : Nat) : Int) := by
  rw [bf3]
  simp only [nn0, nn1, nn2, ld3, add_cast1, mn_cast, pk_cast]
  rfl
theorem nn4 (a b c d w : Nat) : Bf (loadsOf [(a : Int), (b : Int), (c : Int), (d : Int)]) (w : Int) 4 = ((n4 w a b c d : Nat) : Int) := by
  rw [bf4]
  simp only [nn0, add_cast1, mn_cast, pk_cast]
  rfl
theorem nn5 (a b c d w : Nat) : Bf (loadsOf [(a : Int), (b : Int), (c : Int), (d : Int)]) (w : Int) 5 = ((n5 w a b c d : Nat) : Int) := by
  rw [bf5]
  simp only [nn0, nn1, nn4, ld5, add_cast1, mn_cast, pk_cast]
  rfl
theorem nn6 (a b c d w : Nat) : Bf (loadsOf [(a : Int), (b : Int), (c : Int), (d : Int)]) (w : Int) 6 = ((n6 w a b c d : Nat) : Int) := by
  rw [bf6]
  simp only [nn0, nn2, nn4, ld6, add_cast1, mn_cast, pk_cast]
  rfl
theorem nn7 (a b c d w : Nat) : Bf (loadsOf [(a : Int), (b : Int), (c : Int), (d : Int)]) (w : Int) 7 = ((n7 w a b c d : Nat) : Int) := by
  rw [bf7]
  simp only [nn0, nn1, nn2, nn3, nn4, nn5, nn6, ld3, ld5, ld6, ld7, add_cast1, mn_cast, pk_cast]
  rfl
theorem nn8 (a b c d w : Nat) : Bf (loadsOf [(a : Int), (b : Int), (c : Int), (d : Int)]) (w : Int) 8 = ((n8 w a b c d : Nat) : Int) := by
  rw [bf8]
  simp only [nn0, add_cast1, mn_cast, pk_cast]
  rfl
theorem nn9 (a b c d w : Nat) : Bf (loadsOf [(a : Int), (b : Int), (c : Int), (d : Int)]) (w : Int) 9 = ((n9 w a b c d : Nat) : Int) := by
  rw [bf9]
  simp only [nn0, nn1, nn8, ld9, add_cast1, mn_cast, pk_cast]
  rfl
theorem nn10 (a b c d w : Nat) : Bf (loadsOf [(a : Int), (b : Int), (c : Int), (d : Int)]) (w : Int) 10 = ((n10 w a b c d : Nat) : Int) := by
  rw [bf10]
  simp only [nn0, nn2, nn8, ld10, add_cast1, mn_cast, pk_cast]
  rfl
theorem nn11 (a b c d w : Nat) : Bf (loadsOf [(a : Int), (b : Int), (c : Int), (d : Int)]) (w : Int) 11 = ((n11 w a b c d : Nat) : Int) := by
  rw [bf11]
  simp only [nn0, nn1, nn2, nn3, nn8, nn9, nn10, ld3, ld9, ld10, ld11, add_cast1, mn_cast, pk_cast]
  rfl
theorem nn12 (a b c d w : Nat) : Bf (loadsOf [(a : Int), (b : Int), (c : Int), (d : Int)]) (w : Int) 12 = ((n12 w a b c d : Nat) : Int) := by
  rw [bf12]
  simp only [nn0, nn4, nn8, ld12, add_cast1, mn_cast, pk_cast]
  rfl
theorem nn13 (a b c d w : Nat) : Bf (loadsOf [(a : Int), (b : Int), (c : Int), (d : Int)]) (w : Int) 13 = ((n13 w a b c d : Nat) : Int) := by
  rw [bf13]
  simp only [nn0, nn1, nn4, nn5, nn8, nn9, nn12, ld5, ld9, ld12, ld13, add_cast1, mn_cast, pk_cast]
  rfl
theorem nn14 (a b c d w : Nat) : Bf (loadsOf [(a : Int), (b : Int), (c : Int), (d : Int)]) (w : Int) 14 = ((n14 w a b c d : Nat) : Int) := by
  rw [bf14]
  simp only [nn0, nn2, nn4, nn6, nn8, nn10, nn12, ld6, ld10, ld12, ld14, add_cast1, mn_cast, pk_cast]
  rfl
theorem nn15 (a b c d w : Nat) : Bf (loadsOf [(a : Int), (b : Int), (c : Int), (d : Int)]) (w : Int) 15 = ((n15 w a b c d : Nat) : Int) := by
  rw [bf15]
  simp only [nn0, nn1, nn2, nn3, nn4, nn5, nn6, nn7, nn8, nn9, nn10, nn11, nn12, nn13, nn14, ld3, ld5, ld6, ld7, ld9, ld10, ld11, ld12, ld13, ld14, ld15, add_cast1, mn_cast, pk_cast]
  rfl
noncomputable def lstep (L : List Int) (W R : Int) (acc : Int) (p : Nat) : Int := match lastIt L W R (bests L W 15) p with | some y => min acc y | none => acc
theorem ls1 {L : List Int} {W R acc : Int} {p k : Nat} (h0 : (((p : Nat) : Int) == 0) = false) (hx : (bitXor 15 ((p : Nat) : Int)).toNat = k) (hk : k ≤ 15) : lstep L W R acc p = oi (R + L.getD p 0) W (Bf L W k) acc := by
  unfold lstep lastIt lastOk oi
  rw [h0, hx, bests_get L W k 15 hk, Bool.false_or, Bool.or_false, Int.toNat_natCast]
  by_cases h : R + L.getD p 0 ≤ W
  · rw [decide_eq_true h, if_pos rfl, if_pos h]
  · rw [decide_eq_false h, if_neg (by decide), if_neg h]

theorem lasts_min (L : List Int) (W R : Int) : minOf (lasts L W R (bests L W 15)) = (oi (R + L.getD 15 0) W (Bf L W 0) (oi (R + L.getD 14 0) W (Bf L W 1) (oi (R + L.getD 13 0) W (Bf L W 2) (oi (R + L.getD 12 0) W (Bf L W 3) (oi (R + L.getD 11 0) W (Bf L W 4) (oi (R + L.getD 10 0) W (Bf L W 5) (oi (R + L.getD 9 0) W (Bf L W 6) (oi (R + L.getD 8 0) W (Bf L W 7) (oi (R + L.getD 7 0) W (Bf L W 8) (oi (R + L.getD 6 0) W (Bf L W 9) (oi (R + L.getD 5 0) W (Bf L W 10) (oi (R + L.getD 4 0) W (Bf L W 11) (oi (R + L.getD 3 0) W (Bf L W 12) (oi (R + L.getD 2 0) W (Bf L W 13) (oi (R + L.getD 1 0) W (Bf L W 14) (Bf L W 15)))))))))))))))) := by
  have h : lasts L W R (bests L W 15) = Bf L W 15 :: ([1, 2, 3, 4, 5, 6, 7, 8, 9, 10, 11, 12, 13, 14, 15] : List Nat).filterMap (lastIt L W R (bests L W 15)) := by
    unfold lasts
    rw [show List.range 16 = 0 :: ([1, 2, 3, 4, 5, 6, 7, 8, 9, 10, 11, 12, 13, 14, 15] : List Nat) from by decide, List.filterMap_cons]
    rfl
  rw [h, minOf_foldl, foldl_fm]
  show ([1, 2, 3, 4, 5, 6, 7, 8, 9, 10, 11, 12, 13, 14, 15] : List Nat).foldl (lstep L W R) _ = _
  simp only [List.foldl_cons, List.foldl_nil]
  rw [ls1 (p := 1) (k := 14) (by decide) (by decide +kernel) (by decide)]
  rw [ls1 (p := 2) (k := 13) (by decide) (by decide +kernel) (by decide)]
  rw [ls1 (p := 3) (k := 12) (by decide) (by decide +kernel) (by decide)]
  rw [ls1 (p := 4) (k := 11) (by decide) (by decide +kernel) (by decide)]
  rw [ls1 (p := 5) (k := 10) (by decide) (by decide +kernel) (by decide)]
  rw [ls1 (p := 6) (k := 9) (by decide) (by decide +kernel) (by decide)]
  rw [ls1 (p := 7) (k := 8) (by decide) (by decide +kernel) (by decide)]
  rw [ls1 (p := 8) (k := 7) (by decide) (by decide +kernel) (by decide)]
  rw [ls1 (p := 9) (k := 6) (by decide) (by decide +kernel) (by decide)]
  rw [ls1 (p := 10) (k := 5) (by decide) (by decide +kernel) (by decide)]
  rw [ls1 (p := 11) (k := 4) (by decide) (by decide +kernel) (by decide)]
  rw [ls1 (p := 12) (k := 3) (by decide) (by decide +kernel) (by decide)]
  rw [ls1 (p := 13) (k := 2) (by decide) (by decide +kernel) (by decide)]
  rw [ls1 (p := 14) (k := 1) (by decide) (by decide +kernel) (by decide)]
  rw [ls1 (p := 15) (k := 0) (by decide) (by decide +kernel) (by decide)]

theorem add_cast2 (x y : Nat) : (x : Int) + (y : Int) = ((x + y : Nat) : Int) := by omega
theorem best_eq (a b c d w r : Nat) : bestOf [(a : Int), (b : Int), (c : Int), (d : Int)] (w : Int) (r : Int) = ((bestN w r a b c d : Nat) : Int) := by
  unfold bestOf bestN
  by_cases h : r = 0
  · subst h
    rw [if_pos (by rfl)]
    exact nn15 a b c d w
  · rw [if_neg (by simpa using h), show Nat.beq r 0 = false from by cases r with | zero => exact absurd rfl h | succ n => rfl, lasts_min]
    simp only [nn0, nn1, nn2, nn3, nn4, nn5, nn6, nn7, nn8, nn9, nn10, nn11, nn12, nn13, nn14, nn15, ld1, ld2, ld3, ld4, ld5, ld6, ld7, ld8, ld9, ld10, ld11, ld12, ld13, ld14, ld15, add_cast2, pk_cast]
    exact add_cast1 _
end Mine
end -- C43
section -- C44
/-! C44: the plain law: rows, texts, numbers of rows -/
set_option maxRecDepth 100000
namespace Mine
open PySem PySem.W PySem.Calls PyProof.Rows Builtin

/-! texts as lists of signs -/
noncomputable def cl (l : List Str) : List Nat := l.flatMap fun x => x.cps.toList
theorem str_ext {x y : Str} (h : x.cps.toList = y.cps.toList) : x = y := by
  obtain ⟨⟨a⟩⟩ := x
  obtain ⟨⟨b⟩⟩ := y
  simp at h
  rw [h]
theorem app_cps (x y : Str) : (x ++ y).cps.toList = x.cps.toList ++ y.cps.toList := by
  show (x.cps ++ y.cps).toList = _
  exact Array.toList_append
theorem nul_cps : (Str.ofString "").cps.toList = [] := by decide
theorem cat_cps (l : List Str) : (cat l).cps.toList = cl l := by
  show (Builtin.Str.glued (Str.ofString "") l).cps.toList = _
  rw [StrLaws.glued_eq_join]
  induction l with
  | nil => rfl
  | cons x r ih =>
    cases r with
    | nil => simp [Str.join, cl]
    | cons y r =>
      show (x ++ Str.ofString "" ++ Str.join (Str.ofString "") (y :: r)).cps.toList = _
      rw [app_cps, app_cps, nul_cps, List.append_nil, ih]
      rfl
theorem ptext_cps (ps : List (Str × Str)) : (ptext ps).cps.toList = ps.flatMap fun p => p.1.cps.toList ++ p.2.cps.toList := by
  unfold ptext
  rw [cat_cps]
  unfold cl
  rw [List.flatMap_map]
  congr 1
  funext p
  rw [cat_cps]
  simp [cl]
theorem ptext_one (x : Str) : ptext [(sp, x)] = sp ++ x := str_ext (by rw [ptext_cps, app_cps]; simp)
theorem ptext_nul : ptext [(Str.ofString "", Str.ofString "")] = Str.ofString "" := str_ext (by rw [ptext_cps]; simp [nul_cps])
theorem ptext_nil : ptext [] = Str.ofString "" := str_ext (by rw [ptext_cps, nul_cps]; rfl)

/-! the rows' texts joined -/
noncomputable def ctext (z : LS) : List Nat := cl z.1 ++ z.2.2.flatMap fun p => p.1.cps.toList ++ p.2.cps.toList
theorem cl_snoc (l : List Str) (x : Str) : cl (l ++ [x]) = cl l ++ x.cps.toList := by simp [cl]
theorem ctext_step (mx : Int) (z : LS) (w : Str) : ctext (layStep mx z w) = ctext z ++ (sp ++ w).cps.toList := by
  unfold layStep ctext
  split
  · rw [app_cps]; simp
  · split
    · rename_i h
      rw [h, app_cps]
      dsimp only
      split
      · rw [cl_snoc, ptext_nul, nul_cps]; simp
      · simp
    · dsimp only
      rw [cl_snoc, ptext_cps, app_cps]; simp
theorem ctext_fold (mx : Int) : ∀ (ws : List Str) (z : LS), ctext (ws.foldl (layStep mx) z) = ctext z ++ cl (ws.map fun w => sp ++ w)
  | [], z => by simp [cl]
  | w :: ws, z => by rw [List.foldl_cons, ctext_fold mx ws, ctext_step]; simp [cl]
theorem rows_cl (mx r : Int) (ws : List Str) : cl (layRows mx r ws) = cl (ws.map fun w => sp ++ w) := by
  unfold layRows
  rw [cl_snoc, ptext_cps]
  have := ctext_fold mx ws ([], r, [])
  exact this
theorem rows_join (mx r : Int) (ws : List Str) : cat (layRows mx r ws) = cat (ws.map fun w => sp ++ w) := str_ext (by rw [cat_cps, cat_cps, rows_cl])
theorem row_len {l : List Str} {x : Str} (h : x ∈ l) : x.length ≤ (cl l).length := by
  induction l with
  | nil => cases h
  | cons y r ih =>
    have e : (cl (y :: r)).length = y.length + (cl r).length := by
      show (List.flatMap _ (y :: r)).length = _
      rw [List.flatMap_cons, List.length_append]
      rfl
    rw [e]
    rcases List.mem_cons.mp h with rfl | h
    · exact Nat.le_add_right _ _
    · exact Nat.le_trans (ih h) (Nat.le_add_left _ _)

/-! rows that fit -/
noncomputable def Good (w : Str) : Prop := Txt.count (sp ++ w) sp ≤ 1
structure RI (mx r : Int) (z : LS) : Prop where
  good : ∀ k row, z.1[k]? = some row → badRow mx r k row = false
  n : z.2.1 = aheadOf r z.1.length
  l : z.2.2 = [] ∨ z.2.1 + plen z.2.2 ≤ mx ∨ (z.2.1 = 0 ∧ ∃ w, z.2.2 = [(sp, w)] ∧ Good w)
theorem bad_nul (mx r : Int) (k : Nat) : badRow mx r k (Str.ofString "") = false := by
  unfold badRow
  have h1 : decide (1 < Txt.count (Str.ofString "") (Str.ofString " ")) = false := by decide +kernel
  have h2 : (Str.ofString "" != Str.ofString "") = false := by decide
  rw [h1, h2]
  simp
theorem line_ok {mx r : Int} {z : LS} (h : RI mx r z) : badRow mx r z.1.length (ptext z.2.2) = false := by
  rcases h.l with e | e | ⟨e, w, ew, hw⟩
  · rw [e, ptext_nil]; exact bad_nul _ _ _
  · unfold badRow
    rw [← h.n, ptext_len, decide_eq_false (show ¬ mx < z.2.1 + (plen z.2.2 : Int) by omega), Bool.false_and]
  · unfold badRow
    rw [← h.n, e, ew, ptext_one, decide_eq_false (show ¬ (1 < Txt.count (sp ++ w) (Str.ofString " ")) from Int.not_lt.mpr hw)]
    simp
theorem ahead_zero {r : Int} {k : Nat} (h : 0 < k) : aheadOf r k = 0 := by
  unfold aheadOf
  rw [if_neg (by simp; omega)]
theorem ahead_nn {r : Int} (hr : 0 ≤ r) (k : Nat) : 0 ≤ aheadOf r k := by unfold aheadOf; split <;> omega
theorem good_snoc {mx r : Int} {l : List Str} {x : Str} (h : ∀ k row, l[k]? = some row → badRow mx r k row = false) (hx : badRow mx r l.length x = false) : ∀ k row, (l ++ [x])[k]? = some row → badRow mx r k row = false := fun k row e => by
  by_cases hk : k < l.length
  · rw [List.getElem?_append_left hk] at e; exact h k row e
  · rw [List.getElem?_append_right (Nat.not_lt.mp hk)] at e
    by_cases h0 : k = l.length
    · subst h0; rw [Nat.sub_self] at e; cases e; exact hx
    · rw [List.getElem?_eq_none (by simp; omega)] at e; cases e
theorem RI.step {mx r : Int} {z : LS} {w : Str} (hr : 0 ≤ r) (h : RI mx r z) (hw : Good w) : RI mx r (layStep mx z w) := by
  unfold layStep
  split
  · rename_i hf
    exact ⟨h.good, h.n, .inr (.inl hf)⟩
  · split
    · by_cases hp : 0 < z.2.1
      · simp only [if_pos hp]
        refine ⟨good_snoc h.good (by rw [ptext_nul]; exact bad_nul _ _ _), ?_, .inr (.inr ⟨rfl, w, rfl, hw⟩)⟩
        rw [List.length_append]
        exact (ahead_zero (Nat.succ_pos _)).symm
      · simp only [if_neg hp]
        have hn := ahead_nn hr z.1.length
        rw [← h.n] at hn
        exact ⟨h.good, by rw [← h.n]; show (0 : Int) = _; omega, .inr (.inr ⟨rfl, w, rfl, hw⟩)⟩
    · refine ⟨good_snoc h.good (line_ok h), ?_, .inr (.inr ⟨rfl, w, rfl, hw⟩)⟩
      rw [List.length_append]
      exact (ahead_zero (Nat.succ_pos _)).symm
theorem RI.fold {mx r : Int} (hr : 0 ≤ r) : ∀ (ws : List Str) (z : LS), RI mx r z → (∀ w ∈ ws, Good w) → RI mx r (ws.foldl (layStep mx) z)
  | [], z, h, _ => h
  | w :: ws, z, h, hw => RI.fold hr ws _ (h.step hr (hw w (.head _))) fun x hx => hw x (.tail _ hx)
theorem rows_good {mx r : Int} (hr : 0 ≤ r) {ws : List Str} (hw : ∀ w ∈ ws, Good w) : ∀ k row, (layRows mx r ws)[k]? = some row → badRow mx r k row = false := by
  have h : RI mx r (layAll mx r ws) := RI.fold hr ws _ ⟨fun k row e => by simp at e, rfl, .inl rfl⟩ hw
  exact good_snoc h.good (line_ok h)

/-! numbers of rows -/
theorem plen_snoc (ps : List (Str × Str)) (w : Str) : plen (ps ++ [(sp, w)]) = plen ps + (1 + w.length) := by
  induction ps with
  | nil => show sp.length + w.length + 0 = _; rw [show sp.length = 1 from by decide]; simp [plen]
  | cons p r ih => simp only [List.cons_append, plen, ih]; omega
structure CR (z : LS) (p : Nat × Nat) : Prop where
  c : z.1.length = p.1
  n : z.2.1 + (plen z.2.2 : Int) = (p.2 : Int)
  nn : 0 ≤ z.2.1
  l : z.2.2 = [] ∨ 1 ≤ plen z.2.2
theorem CR.step {z : LS} {p : Nat × Nat} {w : Str} {mx : Nat} (h : CR z p) : CR (layStep mx z w) (stepc mx p (1 + w.length)) := by
  have hz := h.nn
  have hn := h.n
  unfold layStep stepc
  rw [plen_snoc]
  by_cases hf : z.2.1 + ((plen z.2.2 + (1 + w.length) : Nat) : Int) ≤ (mx : Int)
  · rw [if_pos hf, show Nat.ble (p.2 + (1 + w.length)) mx = true from Nat.ble_eq_true_of_le (by omega)]
    exact ⟨h.c, by show z.2.1 + ((plen (z.2.2 ++ [(sp, w)]) : Nat) : Int) = ((p.2 + (1 + w.length) : Nat) : Int); rw [plen_snoc]; omega, hz, .inr (by show 1 ≤ plen (z.2.2 ++ [(sp, w)]); rw [plen_snoc]; omega)⟩
  · have hb : Nat.ble (p.2 + (1 + w.length)) mx = false := by
      cases hq : Nat.ble (p.2 + (1 + w.length)) mx with
      | false => rfl
      | true => exact absurd (Nat.le_of_ble_eq_true hq) (by omega)
    have h1 : plen [(sp, w)] = 1 + w.length := by
      have := plen_snoc [] w
      simpa [plen] using this
    rw [if_neg hf, hb]
    by_cases he : z.2.2 = []
    · rw [if_pos he]
      rw [he] at hn
      have hn' : z.2.1 = (p.2 : Int) := by simpa [plen] using hn
      by_cases hp : 0 < z.2.1
      · simp only [if_pos hp]
        have hq : Nat.beq p.2 0 = false := by
          cases hq : p.2 with
          | zero => rw [hq] at hn'; simp at hn'; omega
          | succ n => rfl
        rw [hq]
        exact ⟨by rw [List.length_append, h.c]; rfl, by show (0 : Int) + (plen [(sp, w)] : Int) = ((1 + w.length : Nat) : Int); rw [h1]; omega, Int.le_refl _, .inr (by show 1 ≤ plen [(sp, w)]; rw [h1]; omega)⟩
      · simp only [if_neg hp]
        have hq : p.2 = 0 := by omega
        rw [hq]
        exact ⟨h.c, by show (0 : Int) + (plen [(sp, w)] : Int) = ((1 + w.length : Nat) : Int); rw [h1]; omega, Int.le_refl _, .inr (by show 1 ≤ plen [(sp, w)]; rw [h1]; omega)⟩
    · rw [if_neg he]
      have h2 : 1 ≤ plen z.2.2 := h.l.resolve_left he
      have hq : Nat.beq p.2 0 = false := by
        cases hq : p.2 with
        | zero => rw [hq] at hn; omega
        | succ n => rfl
      rw [hq]
      exact ⟨by rw [List.length_append, h.c]; rfl, by show (0 : Int) + (plen [(sp, w)] : Int) = ((1 + w.length : Nat) : Int); rw [h1]; omega, Int.le_refl _, .inr (by show 1 ≤ plen [(sp, w)]; rw [h1]; omega)⟩
theorem rows_cnt (mx r : Nat) (x y z u : Str) : (layRows (mx : Int) (r : Int) [x, y, z, u]).length = cnt mx r (1 + x.length) (1 + y.length) (1 + z.length) (1 + u.length) + 1 := by
  have h0 : CR ([], (r : Int), []) (0, r) := ⟨rfl, by simp [plen], Int.natCast_nonneg _, .inl rfl⟩
  have h := (((h0.step (w := x) (mx := mx)).step (w := y) (mx := mx)).step (w := z) (mx := mx)).step (w := u) (mx := mx)
  unfold layRows
  rw [List.length_append]
  exact congrArg (· + 1) h.c
end Mine
end -- C44
section -- C45
/-! C45: the law answers True -/
set_option maxRecDepth 100000
namespace Mine
open PySem PySem.W PySem.Calls PyProof.Rows Builtin
set_option maxHeartbeats 1000000

noncomputable def wl (i k : Nat) : Str := mulS ⟨#[97 + i]⟩ (k : Int)
theorem wl_facts : ∀ i < 4, ∀ k < 7, 1 ≤ k → (headS (wl i k) = ⟨#[97 + i]⟩ ∧ (wl i k).length = k ∧ Txt.count (sp ++ wl i k) sp ≤ 1) := by decide +kernel
theorem size_is (ns : List Int) (k : Int) : ∃ n : Nat, drawSize ns k = (n : Int) ∧ 1 ≤ n ∧ n < 7 := by
  have h1 := Int.fmod_nonneg_of_pos (3 * k + (pickNums (drawNums ns) (some k) none (some 3)).sum) (show (0 : Int) < 6 by decide)
  have h2 := Int.fmod_lt_of_pos (3 * k + (pickNums (drawNums ns) (some k) none (some 3)).sum) (show (0 : Int) < 6 by decide)
  refine ⟨(drawSize ns k).toNat, ?_⟩
  unfold drawSize
  omega
theorem words_is (ns : List Int) : ∃ a b c : Nat, (1 ≤ a ∧ a < 7) ∧ (1 ≤ b ∧ b < 7) ∧ (1 ≤ c ∧ c < 7) ∧ wordsOf ns = [wl 0 a, wl 1 b, wl 2 c, wl 3 c] := by
  obtain ⟨a, ha, ha'⟩ := size_is ns 0
  obtain ⟨b, hb, hb'⟩ := size_is ns 1
  obtain ⟨c, hc, hc'⟩ := size_is ns 2
  refine ⟨a, b, c, ha', hb', hc', ?_⟩
  unfold wordsOf wl
  rw [ha, hb, hc, show Str.ofString "a" = ⟨#[97]⟩ from by decide, show Str.ofString "b" = ⟨#[98]⟩ from by decide, show Str.ofString "c" = ⟨#[99]⟩ from by decide, show Str.ofString "d" = ⟨#[100]⟩ from by decide]
theorem width_is (ns : List Int) : ∃ w : Nat, widthOf ns = (w : Int) ∧ 6 ≤ w ∧ w < 13 := by
  have h1 := Int.fmod_nonneg_of_pos (drawNums ns).sum (show (0 : Int) < 7 by decide)
  have h2 := Int.fmod_lt_of_pos (drawNums ns).sum (show (0 : Int) < 7 by decide)
  refine ⟨(widthOf ns).toNat, ?_⟩
  unfold widthOf
  omega
theorem room_is (ns : List Int) : ∃ r : Nat, roomOf ns = (r : Int) ∧ r < 9 := by
  have h1 := Int.fmod_nonneg_of_pos ((drawNums ns).sum.fdiv 7) (show (0 : Int) < 9 by decide)
  have h2 := Int.fmod_lt_of_pos ((drawNums ns).sum.fdiv 7) (show (0 : Int) < 9 by decide)
  refine ⟨(roomOf ns).toNat, ?_⟩
  unfold roomOf
  omega

/-! the words sorted -/
noncomputable def W0 : List Str := [wl 0 1, wl 1 1, wl 2 1, wl 3 1]
theorem sort_eq {a b c : Nat} (ha : 1 ≤ a ∧ a < 7) (hb : 1 ≤ b ∧ b < 7) (hc : 1 ≤ c ∧ c < 7) (o : Str) : sortP o [wl 0 a, wl 1 b, wl 2 c, wl 3 c] = sortP o W0 := by
  have hh : ∀ i, headS ([wl 0 a, wl 1 b, wl 2 c, wl 3 c].getD i ⟨#[]⟩) = headS (W0.getD i ⟨#[]⟩) := fun i => by
    match i with
    | 0 => exact (wl_facts 0 (by decide) a ha.2 ha.1).1.trans (wl_facts 0 (by decide) 1 (by decide) (by decide)).1.symm
    | 1 => exact (wl_facts 1 (by decide) b hb.2 hb.1).1.trans (wl_facts 1 (by decide) 1 (by decide) (by decide)).1.symm
    | 2 => exact (wl_facts 2 (by decide) c hc.2 hc.1).1.trans (wl_facts 2 (by decide) 1 (by decide) (by decide)).1.symm
    | 3 => exact (wl_facts 3 (by decide) c hc.2 hc.1).1.trans (wl_facts 3 (by decide) 1 (by decide) (by decide)).1.symm
    | i + 4 => rfl
  have e : (fun i j => decide (Txt.find o (headS ([wl 0 a, wl 1 b, wl 2 c, wl 3 c].getD i ⟨#[]⟩)) - Txt.find o (headS ([wl 0 a, wl 1 b, wl 2 c, wl 3 c].getD j ⟨#[]⟩)) < 0)) =
      (fun i j => decide (Txt.find o (headS (W0.getD i ⟨#[]⟩)) - Txt.find o (headS (W0.getD j ⟨#[]⟩)) < 0)) := by
    funext i j
    rw [hh i, hh j]
  show (runT (fun i j => decide (Txt.find o (headS ([wl 0 a, wl 1 b, wl 2 c, wl 3 c].getD i ⟨#[]⟩)) - Txt.find o (headS ([wl 0 a, wl 1 b, wl 2 c, wl 3 c].getD j ⟨#[]⟩)) < 0)) (kas_sort 4)).toList = _
  rw [e]
  rfl
theorem ords_sort : ∀ o ∈ ords, sortP o W0 = o.cps.toList.map fun c => (Txt.find (Str.ofString "abcd") ⟨#[c]⟩).toNat := by decide +kernel
theorem ords_idx : ords.map (fun o => sortP o W0) = [[0, 1, 2, 3], [0, 2, 3, 1], [0, 2, 1, 3], [1, 0, 2, 3], [1, 2, 3, 0], [1, 2, 0, 3], [2, 3, 0, 1], [2, 0, 3, 1], [2, 0, 1, 3], [2, 3, 1, 0], [2, 1, 3, 0], [2, 1, 0, 3]] := by decide +kernel
theorem getD_all {P : Str → Prop} {ws : List Str} (h : ∀ x ∈ ws, P x) (h0 : P ⟨#[]⟩) (i : Nat) : P (ws.getD i ⟨#[]⟩) := by
  rw [List.getD_eq_getElem?_getD]
  cases e : ws[i]? with
  | none => exact h0
  | some x => exact h x (List.mem_of_getElem? e)
theorem sortW_all {P : Str → Prop} {ws : List Str} (h : ∀ x ∈ ws, P x) (h0 : P ⟨#[]⟩) (o : Str) : ∀ x ∈ sortW o ws, P x := fun x hx => by
  obtain ⟨i, _, rfl⟩ := List.mem_map.mp hx
  exact getD_all h h0 i
theorem rows_le (mx : Int) : ∀ (ws : List Str) (z : LS), (ws.foldl (layStep mx) z).1.length ≤ z.1.length + ws.length
  | [], z => Nat.le_refl _
  | w :: ws, z => by
    have h := rows_le mx ws (layStep mx z w)
    have h1 : (layStep mx z w).1.length ≤ z.1.length + 1 := by
      unfold layStep
      split
      · exact Nat.le_succ _
      · split
        · dsimp only
          split
          · rw [List.length_append]; exact Nat.le_refl _
          · exact Nat.le_succ _
        · rw [List.length_append]; exact Nat.le_refl _
    rw [List.foldl_cons, List.length_cons]
    omega
theorem cl_le {M : Nat} : ∀ {l : List Str}, (∀ x ∈ l, x.length ≤ M) → (cl l).length ≤ l.length * M
  | [], _ => Nat.zero_le _
  | x :: l, h => by
    have h1 := h x (.head _)
    have h2 := cl_le (l := l) fun y hy => h y (.tail _ hy)
    have e : (cl (x :: l)).length = x.length + (cl l).length := by
      show (List.flatMap _ (x :: l)).length = _
      rw [List.flatMap_cons, List.length_append]
      rfl
    rw [e, List.length_cons, Nat.succ_mul]
    omega
theorem op_min (x y : Nat) : opOf true ((x + 1 : Nat) : Int) ((y + 1 : Nat) : Int) = ((mn x y + 1 : Nat) : Int) := by
  show (if decide (((y + 1 : Nat) : Int) < ((x + 1 : Nat) : Int)) = true then ((y + 1 : Nat) : Int) else ((x + 1 : Nat) : Int)) = ((x - (x - y) + 1 : Nat) : Int)
  by_cases h : y < x
  · rw [if_pos (decide_eq_true (Int.ofNat_lt.mpr (Nat.succ_lt_succ h))), Nat.sub_sub_self (Nat.le_of_lt h)]
  · rw [if_neg (by rw [decide_eq_false (fun e => h (Nat.lt_of_succ_lt_succ (Int.ofNat_lt.mp e)))]; decide), Nat.sub_eq_zero_of_le (Nat.le_of_not_lt h), Nat.sub_zero]
theorem op_max (x y : Nat) : opOf false ((x + 1 : Nat) : Int) ((y + 1 : Nat) : Int) = ((mx x y + 1 : Nat) : Int) := by
  show (if decide (((x + 1 : Nat) : Int) < ((y + 1 : Nat) : Int)) = true then ((y + 1 : Nat) : Int) else ((x + 1 : Nat) : Int)) = ((x + (y - x) + 1 : Nat) : Int)
  by_cases h : x < y
  · rw [if_pos (decide_eq_true (Int.ofNat_lt.mpr (Nat.succ_lt_succ h))), Nat.add_sub_of_le (Nat.le_of_lt h)]
  · rw [if_neg (by rw [decide_eq_false (fun e => h (Nat.lt_of_succ_lt_succ (Int.ofNat_lt.mp e)))]; decide), Nat.sub_eq_zero_of_le (Nat.le_of_not_lt h), Nat.add_zero]

section
variable {w : World} {A : Around} {b : Heap} {mg mb : Str → Option Value} {bm : Addr} {ob : Obj}
theorem law_all {ns : List Int} (W : WW w b mg mb bm ob) (hA : A.handled = none) (hD : A.depth < 500) (hU : A.units ≤ 200) (hn : ns.length ≤ 63) : CS w b A (.ref 232) [scrV ns] (boolV true) := by
  obtain ⟨a, b', c, ha, hb, hc, hws⟩ := words_is ns
  obtain ⟨wd, hwd, hwd'⟩ := width_is ns
  obtain ⟨rm, hrm, hrm'⟩ := room_is ns
  have hlen : ∀ x ∈ wordsOf ns, 1 ≤ x.length ∧ x.length ≤ 6 := fun x hx => by
    rw [hws] at hx
    simp only [List.mem_cons, List.not_mem_nil, or_false] at hx
    rcases hx with rfl | rfl | rfl | rfl
    · rw [(wl_facts 0 (by decide) a ha.2 ha.1).2.1]; omega
    · rw [(wl_facts 1 (by decide) b' hb.2 hb.1).2.1]; omega
    · rw [(wl_facts 2 (by decide) c hc.2 hc.1).2.1]; omega
    · rw [(wl_facts 3 (by decide) c hc.2 hc.1).2.1]; omega
  have hgood : ∀ x ∈ wordsOf ns, Good x := fun x hx => by
    rw [hws] at hx
    simp only [List.mem_cons, List.not_mem_nil, or_false] at hx
    rcases hx with rfl | rfl | rfl | rfl
    · exact (wl_facts 0 (by decide) a ha.2 ha.1).2.2
    · exact (wl_facts 1 (by decide) b' hb.2 hb.1).2.2
    · exact (wl_facts 2 (by decide) c hc.2 hc.1).2.2
    · exact (wl_facts 3 (by decide) c hc.2 hc.1).2.2
  have hsl : ∀ o, (sortW o (wordsOf ns)).length = 4 := fun o => by unfold sortW; rw [List.length_map]; exact (sortP_lt rfl).2
  have hr0 : 0 ≤ roomOf ns := by rw [hrm]; exact Int.natCast_nonneg _
  have hsp : ∀ o, sortP o (wordsOf ns) = sortP o W0 := fun o => by rw [hws]; exact sort_eq ha hb hc o
  have hcs : (ords.map fun o => ((layRows (widthOf ns) (roomOf ns) (sortW o (wordsOf ns))).length : Int)) =
      (ords.map fun o => sortP o W0).map fun p => ((layRows (wd : Int) (rm : Int) (p.map fun i => [wl 0 a, wl 1 b', wl 2 c, wl 3 c].getD i ⟨#[]⟩)).length : Int) := by
    rw [List.map_map]
    refine List.map_congr_left fun o _ => ?_
    show ((layRows (widthOf ns) (roomOf ns) ((sortP o (wordsOf ns)).map fun i => (wordsOf ns).getD i ⟨#[]⟩)).length : Int) = _
    rw [hsp o, hwd, hrm, hws]
    rfl
  have hl0 := (wl_facts 0 (by decide) a ha.2 ha.1).2.1
  have hl1 := (wl_facts 1 (by decide) b' hb.2 hb.1).2.1
  have hl2 := (wl_facts 2 (by decide) c hc.2 hc.1).2.1
  have hl3 := (wl_facts 3 (by decide) c hc.2 hc.1).2.1
  rw [ords_idx] at hcs
  simp only [List.map_cons, List.map_nil, List.getD_cons_zero, List.getD_cons_succ, rows_cnt, hl0, hl1, hl2, hl3] at hcs
  have hok : okP wd rm (1 + a) (1 + b') (1 + c) = true := ok_all (by omega) (by omega) (by omega) hwd' hrm'
  have hbest : bestOf ((wordsOf ns).map fun y => 1 + (y.length : Int)) (widthOf ns) (roomOf ns) = ((bestN wd rm (1 + a) (1 + b') (1 + c) (1 + c) : Nat) : Int) := by
    rw [hws, hwd, hrm]
    simp only [List.map_cons, List.map_nil, hl0, hl1, hl2, hl3, add_cast1]
    exact best_eq _ _ _ _ _ _
  unfold okP at hok
  split at hok
  rotate_left
  · cases hok
  rename_i hbq
  have hbq' := Nat.eq_of_beq_eq_true hbq
  have hmx := Nat.le_of_ble_eq_true hok
  refine law_body (lay := fun o => layRows (widthOf ns) (roomOf ns) (sortW o (wordsOf ns))) W hA hD hU hn (fun x hx => Nat.le_trans (hlen x hx).2 (by decide)) (fun A₁ h1 h2 h3 => law_orders_abc W h1 h2)
    (fun A₁ h1 h2 h3 o ho => law_lay W h1 h2 h3 ⟨hr0, by rw [hrm]; omega⟩ (fun x hx => ⟨(hlen x hx).1, Nat.le_trans (hlen x hx).2 (by decide)⟩) rfl)
    (fun o ho => ⟨?_, fun r hr => ?_⟩) (fun o ho => ?_) (fun o ho => rows_good hr0 (sortW_all hgood (show Txt.count (sp ++ ⟨#[]⟩) sp ≤ 1 by decide +kernel) o)) hcs ?_ ?_
  · unfold layRows
    have := rows_le (widthOf ns) (sortW o (wordsOf ns)) ([], roomOf ns, [])
    rw [hsl] at this
    rw [List.length_append]
    show (List.foldl (layStep (widthOf ns)) ([], roomOf ns, []) (sortW o (wordsOf ns))).1.length + 1 ≤ 1000
    exact Nat.le_trans (Nat.add_le_add_right this 1) (show 0 + 4 + 1 ≤ 1000 by decide)
  · refine Nat.le_trans (row_len hr) ?_
    rw [rows_cl]
    refine Nat.le_trans (cl_le (M := 7) fun x hx => ?_) (by rw [List.length_map, hsl]; decide)
    obtain ⟨y, hy, rfl⟩ := List.mem_map.mp hx
    rw [Str.length_append, show sp.length = 1 from by decide]
    have := sortW_all (P := fun x => x.length ≤ 6) (fun x hx => (hlen x hx).2) (by decide) o y hy
    omega
  · show cat (layRows _ _ _) = _
    rw [rows_join]
    unfold dueOf sortW
    rw [hsp o, ords_sort o ho, List.map_map, List.map_map]
    show cat _ = cat _
    congr 1
  · rw [hbest, ← hbq']
    simp only [List.foldl_cons, List.foldl_nil, op_min]
    rfl
  · simp only [List.foldl_cons, List.foldl_nil, op_min, op_max]
    show ((maxC wd rm (1 + a) (1 + b') (1 + c) + 1 : Nat) : Int) < 2 * ((minC wd rm (1 + a) (1 + b') (1 + c) + 1 : Nat) : Int)
    omega
end
end Mine
end -- C45
section -- C41
/-! C41: from the law's contract to the row -/
set_option maxRecDepth 100000
namespace Mine
open PySem PySem.W PySem.W.X PySem.Calls PyProof.Rows Builtin

theorem notab_tab {h : Heap} {a : Addr} {o : Obj} {T : String} (KT : ∀ P ∈ tabs, h.get? P = some (tabObj #[])) (e : h.get? a = some o) (hc : o.cls = .type T) : a ∉ tabs := fun q => by
  rw [KT a q] at e
  cases e
  cases hc
theorem ns_hide {h : Heap} {a : Addr} {m : Str → Option Value} (n : h.Ns a m) (ha : a ∉ tabs) : (hideAll h tabs).Ns a m := let ⟨o, es, ep, e, r⟩ := n; ⟨o, es, ep, hideAll_get tabs e ha, r⟩
theorem KK_tabs (w : World) : ∀ P ∈ tabs, (KK w).lookup P = none := by
  intro P hP
  simp only [tabs, List.mem_cons, List.not_mem_nil, or_false] at hP
  rcases hP with rfl | rfl | rfl | rfl | rfl <;> kernel_rfl
theorem ww_of {p : Program} {loose : List Str} {mean : ExcName → Option Value} {w : World} {mg mb : Str → Option Value} {h : Heap} (T : Top p loose mean mg mb h) (KX : (KK w).In h) (KT : ∀ P ∈ tabs, h.get? P = some (tabObj #[])) :
    ∃ bm ob, WW w (hideAll h tabs) mg mb bm ob := by
  obtain ⟨bm, ob, M⟩ := bmod_of_top T
  refine ⟨bm, ob, ⟨⟨(fun a o e => hideAll_get tabs (KX a o e) fun q => by rw [KK_tabs w a q] at e; cases e), ?_, ?_, ns_hide T.b (by decide), T.builtins⟩, fun P hP => hideAll_none tabs hP⟩⟩
  · obtain ⟨mc, n, x⟩ := T.nolimit
    exact ⟨mc, ns_hide n (by decide), x⟩
  · exact ⟨ns_hide M.ns (by decide), M.name, M.ne, hideAll_get tabs M.obj (notab_tab KT M.obj M.cls), M.cls, M.dict, M.data⟩
theorem st_of {s : Shared} (KT : ∀ P ∈ tabs, s.heap.get? P = some (tabObj #[])) (hg : s.gens = #[]) : St (hideAll s.heap tabs) s where
  ext := fun a o e => of_hideAll tabs e
  tab := fun P hP => ⟨#[], KT P hP, .nil⟩
  bare := .of_eq hg
  cod := ⟨⟨#[], KT 210 (by decide), .nil⟩, ⟨#[], KT 229 (by decide), .nil⟩, .inl (KT 184 (by decide))⟩
theorem tabs_code (w : World) : ∀ P ∈ tabs, ∃ c, codeHdIn (KK w) c P = true := by
  intro P hP
  simp only [tabs, List.mem_cons, List.not_mem_nil, or_false] at hP
  rcases hP with rfl | rfl | rfl | rfl | rfl
  · exact ⟨144, by kernel_rfl⟩
  · exact ⟨151, by kernel_rfl⟩
  · exact ⟨188, by kernel_rfl⟩
  · exact ⟨214, by kernel_rfl⟩
  · exact ⟨231, by kernel_rfl⟩
theorem old_of {w : World} {b : Heap} {s s' : Shared} (KX : (KK w).In s.heap) (KT : ∀ P ∈ tabs, s.heap.get? P = some (tabObj #[])) (N : Nx b [] s s') : OldK s.heap s'.heap := by
  have key : ∀ a o, s.heap.get? a = some o → asItWas s.heap s'.heap a o ∧ ∃ o', s'.heap.get? a = some o' := fun a o e => by
    by_cases hP : a ∈ tabs
    · obtain ⟨ps, e', _⟩ := N.st.tab a hP
      have e0 := KT a hP
      rw [e] at e0
      cases e0
      obtain ⟨c, hc⟩ := tabs_code w a hP
      obtain ⟨oc, vs, file, tf, flags, tg, inF, text, tt, h1, h2, h3, h4, _⟩ := codeHd_of_K KX hc
      refine ⟨.inr (.inl ⟨⟨c, oc, vs, h1, h2, h3, h4⟩, rfl, #[], ps, rfl, ?_⟩), _, e'⟩
      rw [Array.empty_append]
      exact e'
    · exact ⟨.inl (N.kp a o hP List.not_mem_nil e), _, N.kp a o hP List.not_mem_nil e⟩
  exact ⟨fun a o e => (key a o e).1, fun a o e => (key a o e).2⟩

set_option maxHeartbeats 0 in
theorem fin (hlaw : ∀ {w : World} {b : Heap} {mg mb : Str → Option Value} {bm : Addr} {ob : Obj} {A : Around} {ns : List Int}, WW w b mg mb bm ob → A.handled = none → A.depth < 500 → A.units ≤ 200 → ns.length ≤ 63 → CS w b A (.ref 232) [scrV ns] (boolV true)) : PySem.Challenge.rw_ik0039_01.Holds := by
  refine hdk ?_
  k_fill
  intro w s₀ s₁ mg mb G Y fa o pm cd doc dV kV ho hd hcd hD hmg hg args vals as hpre hlay hrd hwl hlo
  have KX := km_in_of Y
  have KT := km_tabs_of Y
  clear Y
  refine Ground.open G ?_
  intro T B D TE TW
  wrow_args hpre hlay hrd hwl hlo
  rename_i ns hs hlay0 hL1 hr1 hl2 w4 w3 l vs w5 hL ra ww r0 hI hr hc1 hc0
  have e232 : fa = 232 := by
    have h := hmg.symm.trans (mg_of (n := Str.ofString "law") (v := .ref 232) KX T.g (by kernel_rfl))
    cases h
    rfl
  subst e232
  obtain ⟨bm, ob, W⟩ := ww_of T KX KT
  have hl := hL
  obtain ⟨ol, el, cl, _⟩ := hl
  have hn : ns.length ≤ 63 := by omega
  show wpAny (model PW w) callerA (call (.ref 232) [.ref l]) _ _ s₁
  refine hlaw W rfl (by decide) (by decide) hn [] s₁ [.ref l] _ _ (st_of KT hg) (fun _ h => nomatch h) ⟨⟨l, vs.toArray, rfl, notab_tab KT el cl, List.not_mem_nil, hL, by simpa using hI⟩, trivial⟩ fun v s' N hv => ?_
  cases hv
  exact ⟨.inl ⟨_, .bool true, [], rfl, fun _ => rfl, .bool true, (by first | rfl | kernel_rfl | decide +kernel), fun _ => ⟨.nil, fun _ h => nomatch h⟩⟩, old_of KX KT N, N.os, N.st.bare⟩
end Mine
end -- C41
theorem PySem.Challenge.cw_ik0039_01_holds : PySem.Challenge.rw_ik0039_01.Holds :=
  Mine.fin fun W hA hD hU hn => Mine.law_all W hA hD hU hn
