import PyProof.Rows.All
import Wide.All
import OpenK.AllK
import Wide.FinOn
import PySem.Challenge.RW_wr0007_01
open PySem PySem.W PySem.Calls PyProof.Rows
set_option Elab.async false
set_option maxRecDepth 100000
set_option rowWalk.seconds 0
-- M0
set_option maxHeartbeats 16000000
namespace Mine
-- the head with the tables 70, 77, 142 told empty
local macro_rules | `(tactic| o_head ($_:ident $k $a $p $_)) => `(tactic| o_head ((kmHook $k $a $p) [70, 77, 142]))
open_top hd for PySem.Challenge.rw_wr0007_01
end Mine
-- M1
namespace Mine
noncomputable abbrev KK (w : World) : Frag := hd.heap_39 w.params
abbrev P0 : Program := PySem.Challenge.rw_wr0007_01.row.prog

/-- the accumulator object -/
abbrev accObj (d : Addr) (items : Array Value) (ep : Nat) : Obj := { cls := .ref 108, dict := some d, data := .seq items ep }
abbrev accDict (P : Params) (t t' : Tok) : Obj := dictOf [⟨PyData.keyHash P "_initial_size", .str "_initial_size" t, .int 0 t'⟩] 1

section
variable {P : Params}
theorem f_ga : findIn (hd.heap_39 P) (.ref 108) "__getattribute__" = some (some (.builtin "list.__getattribute__")) := by kernel_rfl
theorem f_gattr : findIn (hd.heap_39 P) (.ref 108) "__getattr__" = some none := by kernel_rfl
theorem f_append : findIn (hd.heap_39 P) (.ref 108) "append" = some (some (.builtin "list.append")) := by kernel_rfl
theorem f_push : findIn (hd.heap_39 P) (.ref 108) "push" = some (some (.ref 52)) := by kernel_rfl
theorem f_pop : findIn (hd.heap_39 P) (.ref 108) "pop" = some (some (.ref 68)) := by kernel_rfl
theorem f_pc : findIn (hd.heap_39 P) (.ref 108) "part_count" = some (some (.ref 105)) := by kernel_rfl
theorem f_ow : findIn (hd.heap_39 P) (.ref 108) "is_onlyws" = some (some (.ref 97)) := by kernel_rfl
theorem f_is : findIn (hd.heap_39 P) (.ref 108) "_initial_size" = some none := by kernel_rfl
theorem f_sub : subIn (hd.heap_39 P) (.ref 108) (.type "list") = some true := by kernel_rfl
theorem f_fn : (typeIn (hd.heap_39 P) (.ref 52) = some (.type "function") ∧ typeIn (hd.heap_39 P) (.ref 68) = some (.type "function")) ∧ typeIn (hd.heap_39 P) (.ref 105) = some (.type "function") ∧ typeIn (hd.heap_39 P) (.ref 97) = some (.type "function") := ⟨⟨by kernel_rfl, by kernel_rfl⟩, by kernel_rfl, by kernel_rfl⟩
theorem f_size (t t' : Tok) : findObj (hd.heap_39 P) 108 (some (accDict P t t')) "_initial_size" = some (.value (.int 0 t')) := by kernel_rfl
end
theorem can_ga : (Manifest.canonical "list.__getattribute__" != "object.__getattribute__") = false := by decide +kernel
theorem slot_ga : Slot "list" "__getattribute__" "list.__getattribute__" :=
  .of (owner := "list") (n := "__getattribute__") (by rw [typeLookup_type, builtinLookup_eq_fast]; kernel_rfl) (by decide +kernel) (by decide +kernel) (by decide +kernel)
    (by first | exact .inl (by decide +kernel) | exact .inr (by decide +kernel)) (by rw [isSubtype_type]; kernel_rfl)
theorem entry_ga : entryFor table "list.__getattribute__" = some Builtin.«object.__getattribute__» :=
  entryFor_alias (id' := "object.__getattribute__") (by kernel_rfl) rfl (by decide +kernel) (by kernel_rfl)
theorem args_ga (a b : Value) : argsOk "list.__getattribute__" ⟨[a, b], []⟩ := by unfold argsOk; kernel_rfl

section
variable {w : World} {A : Around} {E : Value → Shared → Prop} {s : Shared} {x : Addr} {ox : Obj} {od : Obj} {name : Str}

theorem acc_sub {M : Model} {h : Heap} (X : (KK w).In h) (I : PySem.W.InstAt h x ox 108 (some od)) : Looks M h (isInstance (.ref x) (.type "list")) true :=
  I.type.andThen (looks_subIn X f_sub)

theorem acc_method {f tf : Value} {pl : Sem Bool} {Q : Value × List Value → Shared → Prop} (X : (KK w).In s.heap) (I : PySem.W.InstAt s.heap x ox 108 (some od))
    (hf : findIn (KK w) (.ref 108) name = some (some f)) (ht : Looks (model P0 w) s.heap (typeOf f) tf)
    (htf : (tf != .type "function" && tf != .type "method_descriptor" && tf != .type "wrapper_descriptor") = false) (hl : lookIn name od = some none)
    (h : Q (f, [.ref x]) s) : wpAny (model P0 w) A (getMethod (.ref x) name pl) Q E s := by
  unfold getMethod specialOf
  refine wpAny_bind (wpAny_bind (I.type.here ((looks_findIn X f_ga).here ?_)))
  dsimp only
  rw [can_ga, if_neg (by decide)]
  refine wpAny_bind (wpAny_bind (I.type.here ((looks_findIn X f_gattr).here ?_)))
  refine wpAny_bind (wpAny_bind (I.type.here ((looks_findIn X hf).here (wpAny_bind (ht.here ?_)))))
  rw [htf, if_neg (by decide)]
  refine wpAny_bind (wpAny_loadPart I.at_ ?_)
  have hd := I.dict
  cases e : ox.dict with
  | none => exact wpAny_bind (wpAny_rule (wpAny_pure h))
  | some dx =>
      rw [e] at hd
      refine wpAny_bind (wpAny_bind (wpAny_loadPart hd ?_))
      rw [nsLook_of hl]
      refine wpAny_pure ?_
      exact wpAny_bind (wpAny_rule (wpAny_pure h))

theorem check_slotM {M : Model} {i owner n : String} {self : Value} {rest : List Value} {kw : List (Str × Value)} {Q : Unit → Shared → Prop}
    (hk : builtinKind i = some .slot ∨ builtinKind i = some .method) (hs : splitId i = some (owner, n)) (hi : Looks M s.heap (isInstance self (.type owner)) true) (ha : argsOk i ⟨self :: rest, kw⟩) (q : Q () s) :
    wpAny M A (checkBuiltinCall i ⟨self :: rest, kw⟩) Q E s := by
  rcases hk with hk | hk
  all_goals
    simp only [checkBuiltinCall, hk, hs]
    refine wpAny_bind (hi.here ?_)
    simp only [Bool.not_true, Bool.false_eq_true, if_false]
    cases hsig : Manifest.signature? i with
    | none => exact wpAny_pure q
    | some sig =>
      simp only [argsOk, hsig] at ha
      have h2 : Bind.checkArgs i sig ⟨self :: rest, kw⟩ = pure () := ha
      show wpAny M A (Bind.checkArgs i sig ⟨self :: rest, kw⟩) Q E s
      rw [h2]; exact wpAny_pure q

theorem acc_size {t t' : Tok} {expr : Bool} {Q : Value → Shared → Prop} (X : (KK w).In s.heap) (I : PySem.W.InstAt s.heap x ox 108 (some (accDict w.params t t')))
    (h : Q (.int 0 t') { s with toks := s.toks + 1 }) : wpAny (model P0 w) A (getAttr (.ref x) "_initial_size" expr) Q E s := by
  obtain ⟨hh, g, d, tk, os⟩ := s
  have L0 := I.type (M := model P0 w)
  have L1 := looks_findIn (M := model P0 w) X f_ga
  have L2 := looks_findIn (M := model P0 w) X f_gattr
  have L3 := looks_find (M := model P0 w) X I (f_size t t')
  unfold getAttr getAttrBy
  refine wpAny_bind (wpAny_mkText (wpAny_holding (wpAny_bind (L0.at (wpAny_bind (L1.at ?_))))))
  show wpAny _ _ (getAttrByItsOwn _ _ _ _ _ _) _ _ _
  unfold getAttrByItsOwn hookBefore callGetattribute boundAndCalled
  refine wpAny_bind (L2.at ?_)
  rw [show (expr && onTheHeap (Value.builtin "list.__getattribute__")) = false from Bool.and_false _]
  refine wpAny_bind (wpAny_attempt (wpAny_holding ?_))
  show wpAny _ _ (bindSpecial (.builtin "list.__getattribute__") (.ref x) >>= _) _ _ _
  refine wpAny_bind (wpAny_of_eq (slot_ga.bind _) ?_)
  refine wpAny_call (codeAny_call_builtin slot_ga.plain entry_ga ?_)
  refine @check_slotM _ _ _ (model P0 w) "list.__getattribute__" "list" "__getattribute__" (.ref x) [.str "_initial_size" tk] [] _ (.inl (by decide +kernel)) (by decide +kernel) (acc_sub X I) (args_ga _ _) ?_
  refine wpAny_bind (wpAny_pure ?_)
  refine wpAny_bind (wpAny_pure ?_)
  refine wpAny_bind (L0.at (wpAny_bind (L3.at ?_)))
  refine wpAny_pure ?_
  exact wpAny_pure h
end
end Mine
-- M2
namespace Mine
theorem f_iter {P : Params} : findIn (hd.heap_39 P) (.ref 108) "__iter__" = some (some (.builtin "list.__iter__")) := by kernel_rfl

/-- the object and its dict -/
theorem inst_of {h : Heap} {r d : Addr} {items : Array Value} {ep : Nat} {od : Obj} (h1 : h.get? r = some (accObj d items ep)) (h2 : h.get? d = some od) : PySem.W.InstAt h r (accObj d items ep) 108 (some od) :=
  ⟨h1, rfl, rfl, h2⟩
section
variable {w : World} {A : Around} {E : Value → Shared → Prop} {s : Shared} {r d : Addr} {items : Array Value} {ep : Nat} {od : Obj}

/-- calling a builtin method of list upon an accumulator -/
theorem acc_call {id nm : String} {B : Builtin} {rest : List Value} {Q : Value → Shared → Prop} (X : (KK w).In s.heap) (I : PySem.W.InstAt s.heap r (accObj d items ep) 108 (some od))
    (hk : builtinKind id = some .slot ∨ builtinKind id = some .method) (hs : splitId id = some ("list", nm)) (plain : plainId id = true) (entry : entryFor table id = some B) (ha : argsOk id ⟨.ref r :: rest, []⟩)
    (hc : wpAny (model P0 w) A.in1 (B ⟨.ref r :: rest, []⟩) (fun fin s' => ∃ v, fin = .done (.ret v) ∧ Q v s') E s) :
    wpAny (model P0 w) A (call (.builtin id) (.ref r :: rest)) Q E s := by
  refine wpAny_call (codeAny_call_builtin plain entry ?_)
  refine @check_slotM _ _ s (model P0 w) id "list" nm (.ref r) rest [] _ hk hs (acc_sub X I) ha ?_
  refine wpAny_mono hc (fun fin s' h' => ?_) fun _ _ h' => h'
  obtain ⟨v, rfl, hv⟩ := h'; exact hv

theorem mapSeq_acc_push (v : Value) : Obj.mapSeq (·.push v) (accObj d items ep) = accObj d (items.push v) (ep + 1) := by simp [Obj.mapSeq]
theorem mapSeq_acc_pop (v : Value) : Obj.mapSeq (fun xs => xs.eraseIdxIfInBounds ((items.push v).size - 1)) (accObj d (items.push v) ep) = accObj d items (ep + 1) := by
  have e : (items.push v).eraseIdxIfInBounds ((items.push v).size - 1) = items := by
    unfold Array.eraseIdxIfInBounds
    rw [dif_pos (by simp)]
    apply Array.ext'
    simp [List.eraseIdx_append_of_length_le]
  have gen : ∀ f : Array Value → Array Value, f (items.push v) = items → Obj.mapSeq f (accObj d (items.push v) ep) = accObj d items (ep + 1) := by
    intro f hf
    simp [Obj.mapSeq, hf]
  exact gen _ e

theorem acc_append {v : Value} {Q : Value → Shared → Prop} (X : (KK w).In s.heap) (I : PySem.W.InstAt s.heap r (accObj d items ep) 108 (some od)) (hsz : items.size ≤ sizeLine)
    (h : ∀ h', Heap.SameBut r s.heap h' → h'.get? r = some (accObj d (items.push v) (ep + 1)) → Q .none { s with heap := h' }) :
    wpAny (model P0 w) A (call (.builtin "list.append") [.ref r, v]) Q E s := by
  refine acc_call X I (id := "list.append") (nm := "append") (.inr (by decide +kernel)) (by decide +kernel) (by decide +kernel) PySem.F.entry_list_append (PySem.args_list_append _ _) ?_
  show wpAny _ _ (updateSeq r (·.push v) >>= fun _ => ret .none) _ _ s
  refine wpAny_bind ?_
  refine wpAny_updateSeq I.at_ rfl (wpAny_pure ⟨.none, rfl, h _ (Heap.SameBut.update ..) ?_⟩)
  rw [Heap.get?_update_self _ I.at_ (by rw [mapSeq_acc_push]; rfl), mapSeq_acc_push]

theorem acc_len {Q : Value → Shared → Prop} (X : (KK w).In s.heap) (I : PySem.W.InstAt s.heap r (accObj d items ep) 108 (some od))
    (h : ∀ tk t, Q (.int (items.size : Int) t) { s with toks := tk }) :
    wpAny (model P0 w) A (call (.builtin "list.__len__") [.ref r]) Q E s := by
  refine acc_call X I (id := "list.__len__") (nm := "__len__") (.inl (by decide +kernel)) (by decide +kernel) (by decide +kernel) PySem.F.entry_list_len (PySem.args_list_len _) ?_
  obtain ⟨hh, g, dr, t, os⟩ := s
  have hl := I.at_
  show wpAny _ _ (seqSize r >>= fun n => retInt n) _ _ _
  refine wpAny_bind ?_
  unfold seqSize
  refine wpAny_bind (wpAny_loadPart hl ?_)
  refine wpAny_pure ?_
  unfold retInt
  refine wpAny_bind ?_
  refine wpAny_mkInt' ?_
  refine wpAny_pure ⟨_, rfl, h _ _⟩

theorem acc_pop {v : Value} {Q : Value → Shared → Prop} (X : (KK w).In s.heap) (I : PySem.W.InstAt s.heap r (accObj d (items.push v) ep) 108 (some od)) (hsz : (items.push v).size ≤ sizeLine)
    (h : ∀ h', Heap.SameBut r s.heap h' → h'.get? r = some (accObj d items (ep + 1)) → Q v { s with heap := h' }) :
    wpAny (model P0 w) A (call (.builtin "list.pop") [.ref r]) Q E s := by
  refine acc_call X I (id := "list.pop") (nm := "pop") (.inr (by decide +kernel)) (by decide +kernel) (by decide +kernel) PySem.F.entry_list_pop (PySem.F.args_list_pop_1 _) ?_
  obtain ⟨hh, g, dr, t, os⟩ := s
  have hl := I.at_
  have hne : ¬ (items.push v).isEmpty = true := by simp
  have hk : seqIndex? (-1) (items.push v).size = some ((items.push v).size - 1) := by
    have e1 : (items.push v).size = items.size + 1 := by simp
    rw [seqIndex_neg (by omega) (by omega)]; congr 1; omega
  have hy : (items.push v)[(items.push v).size - 1]? = some v := by simp
  wp_walk using AutoSeq1.wpAny_loadPart' hl
  simp only [hk, hy, Option.bind_some, Option.map_some]
  have hz' : ((items.push v).eraseIdxIfInBounds ((items.push v).size - 1)).size ≤ sizeLine + 1 := Nat.le_trans (PySem.MeetsSeq.size_erased _ _) (Nat.le_succ_of_le hsz)
  wp_walk using (wpAny_updateSeq hl rfl (hz := hsz) (_hz' := hz')), AutoSeq1.wpAny_loadPart' hl
  refine ⟨_, rfl, h _ (Heap.SameBut.update ..) ?_⟩
  rw [Heap.get?_update_self _ hl (by rw [mapSeq_acc_pop]; rfl), mapSeq_acc_pop]

/-- iter(acc) -/
theorem acc_iter {Q : Value → Shared → Prop} (X : (KK w).In s.heap) (I : PySem.W.InstAt s.heap r (accObj d items ep) 108 (some od))
    (hQ : Q (.ref s.heap.objs.size) { s with heap := s.heap.push { cls := .type "list_iterator", data := .fields #[.ref r, .int 0 0] } }) :
    wpAny (model P0 w) A (pyIter (.ref r)) Q E s := by
  have fin : wpAny (model P0 w) A (call (.builtin "list.__iter__") [.ref r]) (fun it s' => s'.TypeIs it "list_iterator" ∧ Q it s') E s := by
    refine acc_call X I (id := "list.__iter__") (nm := "__iter__") (.inl (by decide +kernel)) (by decide +kernel) (by decide +kernel) PySem.F.entry_list_iter (PySem.args_list_iter _) ?_
    show wpAny _ _ (do ret (← newFields "list_iterator" [.ref r, rawInt 0])) _ _ s
    exact wpAny_bind (wpAny_newObj_type (wpAny_pure ⟨_, rfl, ⟨_, Heap.get?_push_size _ rfl, rfl⟩, hQ⟩))
  unfold pyIter
  refine wpAny_bind (wpAny_bind (I.type.here ((looks_findIn X f_iter).here ?_)))
  show wpAny _ A (callSpecialIfBoundUnlessNone? (.ref r) "__iter__" _ >>= _) Q E s
  refine wpAny_bind ?_
  simp only [callSpecialIfBoundUnlessNone?, bindSpecialIfBound?]
  refine wpAny_holding (wpAny_bind (wpAny_bind (wpAny_bind (I.type.here ((looks_findIn X f_iter).here ?_)))))
  simp only [slot_list_iter.bind]
  have fin2 : ∀ (refuse : Sem Value) (Q' : Option Value → Shared → Prop), (∀ it s', s'.TypeIs it "list_iterator" ∧ Q it s' → Q' (some it) s') → wpAny (model P0 w) A (if (Value.builtin "list.__iter__" == Value.none) = true then (refuse >>= fun v => pure (some v)) else (call (.builtin "list.__iter__") [.ref r] >>= fun v => pure (some v))) Q' E s := by
    intro refuse Q' hQ'
    simp only [builtin_beq_none, Bool.false_eq_true, if_false]
    exact wpAny_bind (wpAny_mono fin (fun v s' h' => wpAny_pure (hQ' _ _ h')) fun _ _ h' => h')
  refine wpAny_bind (wpAny_askSetting (wpAny_ite ?_))
  have key : ∀ it s', s'.TypeIs it "list_iterator" ∧ Q it s' → wpAny (model P0 w) A (specialOf it "__next__" >>= fun x => match x with
      | none => (do rule "iter.non-iterator"; raiseError "TypeError" s!"iter() returned non-iterator of type '{← typeNameOf it}'" : Sem Value)
      | some _ => pure it) Q E s' := fun it s' h' => wpAny_bind (wpAny_specialOf h'.1 slot_listiter_next.lookup (wpAny_pure h'.2))
  split
  · exact wpAny_bind (wpAny_pure (wpAny_pure (fin2 _ _ fun it s' h' => key it s' h')))
  · exact wpAny_tryCatch (wpAny_bind (wpAny_pure (wpAny_pure (fin2 _ _ fun it s' h' => key it s' h'))))
end
end Mine
-- M3
namespace Mine
theorem slot_wd : Slot "wrapper_descriptor" "__get__" "wrapper_descriptor.__get__" :=
  .of (owner := "wrapper_descriptor") (n := "__get__") (by rw [typeLookup_type, builtinLookup_eq_fast]; kernel_rfl) (by decide +kernel) (by decide +kernel) (by decide +kernel)
    (by first | exact .inl (by decide +kernel) | exact .inr (by decide +kernel)) (by rw [isSubtype_type]; kernel_rfl)
theorem slot_md : Slot "method_descriptor" "__get__" "method_descriptor.__get__" :=
  .of (owner := "method_descriptor") (n := "__get__") (by rw [typeLookup_type, builtinLookup_eq_fast]; kernel_rfl) (by decide +kernel) (by decide +kernel) (by decide +kernel)
    (by first | exact .inl (by decide +kernel) | exact .inr (by decide +kernel)) (by rw [isSubtype_type]; kernel_rfl)
theorem entry_wd : entryFor table "wrapper_descriptor.__get__" = some Builtin.«wrapper_descriptor.__get__» := entryFor_of_tree (by kernel_rfl)
theorem entry_md : entryFor table "method_descriptor.__get__" = some Builtin.«method_descriptor.__get__» := entryFor_of_tree (by kernel_rfl)
theorem args_wd (a b c : Value) : argsOk "wrapper_descriptor.__get__" ⟨[a, b, c], []⟩ := by unfold argsOk; kernel_rfl
theorem args_md (a b c : Value) : argsOk "method_descriptor.__get__" ⟨[a, b, c], []⟩ := by unfold argsOk; kernel_rfl
theorem type_len : typeOf (.builtin "list.__len__") = pure (.type "wrapper_descriptor") := by show builtinType _ = _; rw [builtinType_eq_fast]; kernel_rfl
theorem type_init : typeOf (.builtin "list.__init__") = pure (.type "wrapper_descriptor") := by show builtinType _ = _; rw [builtinType_eq_fast]; kernel_rfl
theorem type_pop : typeOf (.builtin "list.pop") = pure (.type "method_descriptor") := by show builtinType _ = _; rw [builtinType_eq_fast]; kernel_rfl

noncomputable def accCls (P : Params) : ClassData := (clsIn (hd.heap_39 P) 108).getD default
theorem f_clsIn {P : Params} : clsIn (hd.heap_39 P) 108 = some (accCls P) := by kernel_rfl
theorem f_mro {P : Params} : (accCls P).mro = [.ref 108, .type "list", .type "object"] := by kernel_rfl
section
variable {w : World} {A : Around} {E : Value → Shared → Prop} {s : Shared} {r d : Addr} {items : Array Value} {ep : Nat} {od : Obj}

theorem code_entry {T : String} {name : Str} {id : String} {b : Builtin} {self : Value} {rest : List Value} {Q : Value → Shared → Prop} (h : Slot T name id) (hT : s.TypeIs self T)
    (hb : entryFor table id = some b) (ha : argsOk id ⟨self :: rest, []⟩)
    (hc : wpAny (model P0 w) A.in1 (b ⟨self :: rest, []⟩) (fun fin s' => ∃ v, fin = .done (.ret v) ∧ Q v s') E s) :
    codeAny (model P0 w) A (.call (.builtin id) ⟨self :: rest, []⟩) (wants Q E) s := by
  refine codeAny_call_builtin h.plain hb (h.check _ _ _ _ _ _ _ _ hT ha (wpAny_mono hc (fun fin s' h' => ?_) fun _ _ h' => h'))
  obtain ⟨v, rfl, hv⟩ := h'; exact hv

theorem wd_get {id : String} {Q : Value → Shared → Prop} (X : (KK w).In s.heap) (I : PySem.W.InstAt s.heap r (accObj d items ep) 108 (some od))
    (ht : typeOf (.builtin id) = pure (.type "wrapper_descriptor")) (ho : (".".intercalate (id.cutAt '.').dropLast) = "list")
    (h : Q (.ref s.heap.objs.size) { s with heap := s.heap.push { cls := .type "method-wrapper", data := .fields #[.builtin id, .ref r] } }) :
    codeAny (model P0 w) A (.call (.builtin "wrapper_descriptor.__get__") ⟨[.builtin id, .ref r, .ref 108], []⟩) (wants Q E) s := by
  refine code_entry slot_wd ht entry_wd (args_wd _ _ _) ?_
  obtain ⟨hh, g, dr, t, os⟩ := s
  have hl := I.at_
  have L := looks_subIn (M := model P0 w) X f_sub
  unfold Builtin.«wrapper_descriptor.__get__»
  wp_walk using AutoSeq1.wpAny_loadPart' hl
  rw [ho]
  refine Looks.at L ?_
  wp_walk
  exact ⟨_, rfl, h⟩

theorem md_get {id : String} {Q : Value → Shared → Prop} (X : (KK w).In s.heap) (I : PySem.W.InstAt s.heap r (accObj d items ep) 108 (some od))
    (ht : typeOf (.builtin id) = pure (.type "method_descriptor")) (ho : (".".intercalate (id.cutAt '.').dropLast) = "list") (hn : Manifest.toldItsClass.contains id = false)
    (h : Q (.ref s.heap.objs.size) { s with heap := s.heap.push { cls := .type "builtin_function_or_method", data := .fields #[.builtin id, .ref r] } }) :
    codeAny (model P0 w) A (.call (.builtin "method_descriptor.__get__") ⟨[.builtin id, .ref r, .ref 108], []⟩) (wants Q E) s := by
  refine code_entry slot_md ht entry_md (args_md _ _ _) ?_
  obtain ⟨hh, g, dr, t, os⟩ := s
  have hl := I.at_
  have L := looks_subIn (M := model P0 w) X f_sub
  unfold Builtin.«method_descriptor.__get__»
  wp_walk using AutoSeq1.wpAny_loadPart' hl
  rw [hn, if_neg (by decide)]
  wp_walk using AutoSeq1.wpAny_loadPart' hl
  rw [ho]
  refine Looks.at L ?_
  wp_walk
  exact ⟨_, rfl, h⟩

/-- super(_Accumulator, self).NAME, NAME a builtin of list -/
theorem sup_get {so : Addr} {name : Str} {id g' T' : String} {tk : Tok} {Q : Fin → Shared → Prop}
    (hso : s.heap.get? so = some (ks_superObj 108 r 108)) (X : (KK w).In s.heap) (I : PySem.W.InstAt s.heap r (accObj d items ep) 108 (some od))
    (hf : alongIn (KK w) name [.type "list", .type "object"] = some (some (.builtin id))) (hT : typeOf (.builtin id) = pure (.type T')) (hg : typeLookup (.type T') "__get__" = pure (some (.builtin g')))
    (hn : (name == ("__class__" : Str)) = false) (hr : r ≠ 108)
    (hq : codeAny (model P0 w) A (.call (.builtin g') ⟨[.builtin id, .ref r, .ref 108], []⟩) (wants (fun v s' => Q (.done (.ret v)) s') E) s) :
    wpAny (model P0 w) A (Builtin.«super.__getattribute__» ⟨[.ref so, .str name tk], []⟩) Q E s := by
  obtain ⟨hh, gg, dd, t, os⟩ := s
  have hne : (Value.ref r == Value.ref 108) = false := by simp [hr]
  have hno := looks_opaque (M := model P0 w) (C := 108) X (by kernel_rfl)
  have hc := f_clsIn (P := w.params)
  have hm := f_mro (P := w.params)
  have hC : Looks (model P0 w) hh (mroOf (.ref 108)) (accCls w.params).mro := fun A Q E s k q => wpAny_bind ((looks_clsIn X hc) A _ E s k (wpAny_pure q))
  have hl : ((accCls w.params).mro.dropWhile (· != .ref 108)).drop 1 = [.type "list", .type "object"] := by rw [hm]; decide +kernel
  have hTf : (⟨hh, gg, dd, t, os⟩ : Shared).TypeIs (.builtin id) T' := hT
  have hdt : (ks_superObj 108 r 108).data = .fields #[.ref 108, .ref r, .ref 108] := rfl
  have f0 : (#[.ref 108, .ref r, .ref 108] : Array Value)[0]? = some (.ref 108) := rfl
  have f1 : (#[.ref 108, .ref r, .ref 108] : Array Value)[1]? = some (.ref r) := rfl
  have f2 : (#[.ref 108, .ref r, .ref 108] : Array Value)[2]? = some (.ref 108) := rfl
  unfold Builtin.«super.__getattribute__»
  repeat (first
    | (with_reducible refine wpAny_field hso hdt f0 ?_) | (with_reducible refine wpAny_field hso hdt f1 ?_) | (with_reducible refine wpAny_field hso hdt f2 ?_)
    | (with_reducible refine ks_wpAny_notOpaque hno ?_)
    | (with_reducible refine Looks.at hC ?_; rw [hl])
    | (refine ks_forIn_along X (fun _ _ => rfl) rfl ?_ hf)
    | (with_reducible refine wpAny_typeOf hTf ?_)
    | (with_reducible refine wpAny_of_eq hg ?_)
    | (simp only [hn, hne, Bool.or_false, Bool.false_eq_true, if_false])
    | wp_step
    | dsimp only)
  refine codeAny_mono hq fun r s' h' => ?_
  cases r with
  | error e => exact h'
  | ok fl =>
    cases fl with
    | ret v => exact wpAny_bind (wpAny_pure (wpAny_pure (wpAny_pure h')))
    | _ => exact h'.elim

/-- getMethod of super(_Accumulator, self), NAME a builtin of list: a bound object is made -/
theorem sup_method {so : Addr} {name : Str} {id g' T' B' : String} {pl : Sem Bool} {Q : Value × List Value → Shared → Prop}
    (hso : s.heap.get? so = some (ks_superObj 108 r 108)) (X : (KK w).In s.heap) (I : PySem.W.InstAt s.heap r (accObj d items ep) 108 (some od))
    (hf : alongIn (KK w) name [.type "list", .type "object"] = some (some (.builtin id))) (hT : typeOf (.builtin id) = pure (.type T')) (hg : typeLookup (.type T') "__get__" = pure (some (.builtin g')))
    (hn : (name == ("__class__" : Str)) = false) (hr : r ≠ 108)
    (hget : ∀ {A' : Around} {E' : Value → Shared → Prop} {Q' : Value → Shared → Prop} {s' : Shared}, (KK w).In s'.heap → PySem.W.InstAt s'.heap r (accObj d items ep) 108 (some od) →
       Q' (.ref s'.heap.objs.size) { s' with heap := s'.heap.push { cls := .type B', data := .fields #[.builtin id, .ref r] } } →
       codeAny (model P0 w) A' (.call (.builtin g') ⟨[.builtin id, .ref r, .ref 108], []⟩) (wants Q' E') s')
    (hq : Q (.ref s.heap.objs.size, []) { s with heap := s.heap.push { cls := .type B', data := .fields #[.builtin id, .ref r] }, toks := s.toks + 1 }) :
    wpAny (model P0 w) A (getMethod (.ref so) name pl) Q E s := by
  have hlk := F.ks_slot_super_ga.lookup
  have hcan := F.ks_canon_super_ga
  obtain ⟨hh, gg, dd, t, os⟩ := s
  have hT2 : ∀ t', (⟨hh, gg, dd, t', os⟩ : Shared).TypeIs (.ref so) "super" := fun _ => ⟨_, hso, rfl⟩
  unfold getMethod
  refine wpAny_bind (wpAny_specialOf (hT2 _) hlk ?_)
  show wpAny _ _ (if (Manifest.canonical "super.__getattribute__" != "object.__getattribute__") = true then _ else _) _ _ _
  rw [if_pos hcan]
  unfold getAttr getAttrBy
  refine wpAny_bind (wpAny_bind (wpAny_mkText (wpAny_holding (wpAny_bind (wpAny_typeOf (hT2 _) (wpAny_bind (wpAny_of_eq hlk ?_)))))))
  show wpAny _ _ (getAttrByItsOwn (.ref so) (.str name t) (.type "super") (.builtin "super.__getattribute__") true false) _ _ _
  unfold getAttrByItsOwn hookBefore callGetattribute boundAndCalled
  refine wpAny_bind (wpAny_of_eq (show (if onTheHeap (.type "super") then typeLookup (.type "super") "__getattr__" else pure none) = pure none from rfl) ?_)
  refine wpAny_bind (wpAny_attempt (wpAny_holding ?_))
  show wpAny _ _ (bindSpecial (.builtin "super.__getattribute__") (.ref so) >>= _) _ _ _
  refine wpAny_bind (wpAny_of_eq (F.ks_slot_super_ga.bind _) ?_)
  refine wpAny_mono (Q := fun v s' => v = .ref hh.objs.size ∧ s' = ⟨hh.push { cls := .type B', data := .fields #[.builtin id, .ref r] }, gg, dd, t + 1, os⟩) (E := fun _ _ => False)
    (wpAny_call_entry F.ks_slot_super_ga (hT2 _) F.ks_entry_super_ga (sup_get (s := ⟨hh, gg, dd, t + 1, os⟩) hso X I hf hT hg hn hr (hget X I ⟨_, rfl, rfl, rfl⟩)) (F.ks_gaArgs_super _ _)) (fun v s' hv => ?_) fun _ _ z => z.elim
  obtain ⟨rfl, rfl⟩ := hv
  exact wpAny_pure (wpAny_pure hq)

/-- calling the bound object that super().NAME has made -/
theorem bound_call {b : Addr} {id nm : String} {B : Builtin} {B' : String} {pos : List Value} {Q : Value → Shared → Prop} (hB : B' = "method-wrapper" ∨ B' = "builtin_function_or_method")
    (hb : s.heap.get? b = some { cls := .type B', data := .fields #[.builtin id, .ref r] }) (X : (KK w).In s.heap) (I : PySem.W.InstAt s.heap r (accObj d items ep) 108 (some od))
    (hcheck : ∀ {A' : Around} {E' : Value → Shared → Prop} {Q' : Unit → Shared → Prop}, Q' () s → wpAny (model P0 w) A' (checkBoundCall id ⟨.ref r :: pos, []⟩) Q' E' s)
    (plain : plainId id = true) (entry : entryFor table id = some B)
    (hc : wpAny (model P0 w) A.in1 (B ⟨.ref r :: pos, []⟩) (fun fin s' => ∃ v, fin = .done (.ret v) ∧ Q v s') E s) :
    wpAny (model P0 w) A (call (.ref b) pos) Q E s := by
  refine wpAny_call (codeAny_of_tree ?_)
  obtain ⟨hh, gg, dd, t, os⟩ := s
  show wpAny _ _ (callAny (.ref b) _) _ _ _
  unfold callAny
  refine wpAny_bind (wpAny_load hb ?_)
  have fin : ∀ {A' : Around}, wpAny (model P0 w) A' (checkBoundCall id ⟨.ref r :: pos, []⟩ >>= fun _ => again (.builtin id ⟨.ref r :: pos, []⟩)) (fun fin s' => match fin with
      | .done f => wants Q E (.ok f) s'
      | .again c' => c'.quiet = true ∧ codeAny (model P0 w) A c' (wants Q E) s') (fun e s' => wants Q E (.error e) s') ⟨hh, gg, dd, t, os⟩ := by
    intro A'
    refine wpAny_bind (hcheck (wpAny_pure ⟨plainId_quiet plain _, codeAny_builtin entry ?_⟩))
    rw [Around.under_plainId plain _]
    refine wpAny_mono hc (fun fin s' h' => ?_) fun _ _ z => z
    obtain ⟨v, rfl, hv⟩ := h'
    exact hv
  rcases hB with rfl | rfl
  · exact fin
  · exact fin
end

section
variable {w : World} {A : Around} {E : Value → Shared → Prop} {s : Shared} {r d : Addr} {items : Array Value} {ep : Nat} {od : Obj}
theorem check_len {Q : Unit → Shared → Prop} (h : Q () s) : wpAny (model P0 w) A (checkBoundCall "list.__len__" ⟨[.ref r], []⟩) Q E s :=
  wpAny_of_eq (show checkBoundCall "list.__len__" ⟨[.ref r], []⟩ = pure () by kernel_rfl) h
theorem check_init {Q : Unit → Shared → Prop} (h : Q () s) : wpAny (model P0 w) A (checkBoundCall "list.__init__" ⟨[.ref r], []⟩) Q E s :=
  wpAny_of_eq (show checkBoundCall "list.__init__" ⟨[.ref r], []⟩ = pure () by kernel_rfl) h
theorem f_subm {P : Params} : subIn (hd.heap_39 P) (.ref 108) (.type "module") = some false := by kernel_rfl
theorem f_qual {P : Params} : (accCls P).qualname = "_Accumulator" := by kernel_rfl
theorem f_meta {P : Params} : typeIn (hd.heap_39 P) (.ref 108) = some (.type "type") := by kernel_rfl
theorem sig_pop : ∃ sig, Manifest.signature? "list.pop" = some sig ∧ ∀ a : Value, Bind.checkArgs "list.pop" { sig with full := "_Accumulator.pop" } ⟨[a], []⟩ = pure () := by
  refine ⟨(Manifest.signature? "list.pop").get (by decide +kernel), by simp, fun a => ?_⟩
  kernel_rfl
theorem check_pop {Q : Unit → Shared → Prop} (X : (KK w).In s.heap) (I : PySem.W.InstAt s.heap r (accObj d items ep) 108 (some od)) (h : Q () s) : wpAny (model P0 w) A (checkBoundCall "list.pop" ⟨[.ref r], []⟩) Q E s := by
  obtain ⟨sig, hs, ha⟩ := sig_pop
  obtain ⟨hh, gg, dd, t, os⟩ := s
  have hk : builtinKind "list.pop" = some .method := by decide +kernel
  have hv : Manifest.varargsMethods.contains "list.pop" = false := by decide +kernel
  have hl := I.at_
  have L1 := looks_subIn (M := model P0 w) X f_subm
  have L2 := looks_clsIn (M := model P0 w) X f_clsIn
  have L3 := looks_typeIn (M := model P0 w) X f_meta
  have hq := f_qual (P := w.params)
  have hx : ∀ c, (accObj d items ep).data ≠ .cls c := fun c e => by cases e
  have full : toString (accCls w.params).qualname.toString ++ toString "." ++ toString (Bind.lastOf "list.pop") = "_Accumulator.pop" := by rw [hq]; decide +kernel
  unfold checkBoundCall
  simp only [hs, hk]
  wp_walk using AutoSeq1.wpAny_loadPart' hl
  refine Looks.at L1 ?_
  rw [hv, if_neg (by decide)]
  refine wpAny_bind (ks_wpAny_isType_inst hl hx ?_)
  rw [if_neg (by decide)]
  refine wpAny_bind (I.type.at ?_)
  refine wpAny_bind (L2.at (wpAny_bind (L3.at ?_)))
  rw [if_pos (by decide), full, ha]
  exact wpAny_pure h
end
end Mine
-- M4
namespace Mine
theorem fill : PySem.Challenge.rw_wr0007_01 = PySem.Challenge.rw_wr0007_01 ∧ hd.heap_39 = hd.heap_39 := by
  w_top off
  k_fill
  exact ⟨rfl, rfl⟩
/-- the ledger after a call that changes nothing known -/
abbrev Sub (news news' : List (Addr × Obj)) : Prop := ∀ p ∈ news, p ∈ news'
/-- .. and after one that changes r -/
abbrev SubX (r : Addr) (news news' : List (Addr × Obj)) : Prop := ∀ p ∈ news, p.1 ≠ r → p ∈ news'

theorem News.upd {h₀ h h' : Heap} {L r : Addr} {m : Str → Option Value} {news : List (Addr × Obj)} {o o' : Obj} (F : Fr h₀ L h m) (N : News h₀ L h news) (hr : (r, o) ∈ news) (hs : Heap.SameBut r h h') (ho : h'.get? r = some o') :
    Fr h₀ L h' m ∧ News h₀ L h' ((r, o') :: news.filter (fun p => decide (p.1 ≠ r))) := by
  have D := N _ hr
  obtain ⟨oL, es, ep, hL, rr⟩ := F.ns
  have keep : ∀ b x, b ≠ r → h.get? b = some x → h'.get? b = some x := fun b x hb e => (hs.2 b hb).trans e
  refine ⟨⟨⟨oL, es, ep, keep _ _ (Ne.symm D.2.1) hL, rr⟩, fun b x q => keep b x (fun z => ?_) (F.keep b x q), F.above⟩, fun p hp => ?_⟩
  · subst z
    have := D.2.2; rw [q] at this; cases this
  · rcases List.mem_cons.mp hp with rfl | q
    · exact ⟨ho, D.2⟩
    · have q' := List.mem_filter.mp q
      have P := N p q'.1
      exact ⟨keep _ _ (of_decide_eq_true q'.2) P.1, P.2⟩
theorem subX_upd {r : Addr} {o' : Obj} {news : List (Addr × Obj)} : SubX r news ((r, o') :: news.filter (fun p => decide (p.1 ≠ r))) :=
  fun p hp hne => List.mem_cons_of_mem _ (List.mem_filter.mpr ⟨hp, decide_eq_true hne⟩)
section
variable {w : World} {A₀ A : Around} {base h₀ : Heap} {outer : List Env} {env : Env} {L : Addr} {m mg mb : Str → Option Value} {news : List (Addr × Obj)} {p : Program} {loose : List Str} {mean : ExcName → Option Value}
  {R : Result → Shared → Prop} {s : Shared} {r d : Addr} {items : Array Value} {ep : Nat} {od : Obj}

/-- calling what super().NAME gave, no arguments -/
theorem super_call0 {M : Model} {E : Value → Shared → Prop} {Q : Value → Shared → Prop} {b : Addr} {id B' : String} {pos : Pos} (hB : B' = "method-wrapper" ∨ B' = "builtin_function_or_method")
    (hb : s.heap.get? b = some { cls := .type B', data := .fields #[.builtin id, .ref r] }) (h : wpAny M A (call (.ref b) []) Q E s) :
    wpAny M A (callWith pos (.ref b) [] (backTo pos (starEach [] env)) []) Q E s := by
  refine callWith_of (P := fun h' => h'.get? b = some { cls := .type B', data := .fields #[.builtin id, .ref r] }) rfl (fun h' X => ⟨.machine, .inr (.inl rfl), (Looks.ld (part := none) X).andThen ?_⟩) (evalArgs_nil3 ⟨hb, h⟩)
  rcases hB with rfl | rfl
  · exact .now
  · exact .now

theorem acc_ne (X : (KK w).In s.heap) (I : PySem.W.InstAt s.heap r (accObj d items ep) 108 (some od)) : r ≠ 108 := ks_ne X I f_clsIn

set_option maxHeartbeats 2000000 in
theorem c_pc (B : Below A₀ base outer h₀) (F : Fr h₀ L s.heap m) (X₀ : (KK w).In h₀) (N : News h₀ L s.heap news) (T : Top p loose mean mg mb h₀) (hA : A.frames = some (env :: outer)) (hf : env.frame = some L) (hke : env.scope.kind = .function)
    (hD : A.depth + 20 < recursionLimit) (h1 : (r, accObj d items ep) ∈ news) (h2 : (d, od) ∈ news)
    (h : ∀ h' news' tk t, Fr h₀ L h' m → News h₀ L h' news' → Sub news news' → R (.ok (.ret (.int (items.size : Int) t))) { s with heap := h', toks := tk }) :
    codeAny (model P0 w) A (.call (.ref 105) ⟨[.ref r], []⟩) R s := by
  refine' ks_code_super (K := hd.heap_39 w.params) (prog := P0) (binds := [("self", .ref r)]) B F X₀ N T hA hf hke ?k6 ?k7 ?k8 ?k9 ?kB ?_ ?c1 ?c2 ?c3 ?c4
  case k6 => k_is
  case k7 => k_is
  case k8 => omega
  case k9 => exact BindsTo.of_eq rfl
  case kB => exact locs rfl
  case c1 => decide
  case c2 => exact rfl
  case c3 => exact rfl
  case c4 => exact rfl
  intro g L' h₁ FG F₁ N₁ B₁ X₁ T₁ l₁
  refine ks_wpAt_execs_cons ?_
  refine ks_wpAt_Return_some ?_
  refine ks_wpAt_MethodCall ?_
  have I₁ : PySem.W.InstAt h₁ r (accObj d items ep) 108 (some od) := inst_of (N₁ _ h1).1 (N₁ _ h2).1
  refine ks_node (prog := P0) (K := hd.heap_39 w.params) (x := r) F₁ X₁ N₁ T₁ (by k_is) (by rfl) (by rfl) I₁ (by k_is) (by rfl) (by first | rfl | decide +kernel) (by k_is) (by k_is) (by k_is) (by k_is) (by decide) (by rfl) (by rfl) (by rfl) (by rfl) (by decide +kernel) (by first | boot_by_name | rfl | kernel_rfl) ?_
  intro so h₂ F₂ N₂ l₂
  have I₂ : PySem.W.InstAt h₂ r (accObj d items ep) 108 (some od) := inst_of (N₂ _ (.tail _ h1)).1 (N₂ _ (.tail _ h2)).1
  have XX : (KK w).In h₂ := X₁.keeps F₂.keep
  refine sup_method (id := "list.__len__") (g' := "wrapper_descriptor.__get__") (T' := "wrapper_descriptor") (B' := "method-wrapper") (N₂ _ (.head _)).1 XX I₂ (by kernel_rfl) type_len slot_wd.lookup (by decide +kernel) (acc_ne (s := { s with heap := h₂ }) XX I₂) ?_ ?_
  · intro A' E' Q' s' X' I' hq
    exact wd_get X' I' type_len (by decide +kernel) hq
  · have F₃ := F₂.push { cls := .type "method-wrapper", data := .fields #[.builtin "list.__len__", .ref r] }
    have N₃ := News.push F₂ N₂ { cls := .type "method-wrapper", data := .fields #[.builtin "list.__len__", .ref r] }
    have hb := (N₃ _ (.head _)).1
    have I₃ : PySem.W.InstAt _ r (accObj d items ep) 108 (some od) := inst_of (N₃ _ (.tail _ (.tail _ h1))).1 (N₃ _ (.tail _ (.tail _ h2))).1
    have X₃ : (KK w).In _ := X₁.keeps F₃.keep
    refine super_call0 (id := "list.__len__") (B' := "method-wrapper") (r := r) (.inl rfl) hb ?_
    refine bound_call (id := "list.__len__") (nm := "__len__") (.inl rfl) hb X₃ I₃ (fun hq => check_len hq) (by decide +kernel) PySem.F.entry_list_len ?_
    have hl := I₃.at_
    show wpAny _ _ (seqSize r >>= fun n => retInt n) _ _ _
    refine wpAny_bind ?_
    unfold seqSize
    refine wpAny_bind (wpAny_loadPart hl ?_)
    refine wpAny_pure ?_
    unfold retInt
    refine wpAny_bind ?_
    refine wpAny_mkInt' ?_
    refine wpAny_pure ⟨_, rfl, ?_⟩
    exact leaveK_ F₃ N₃ fun F' N' => h _ _ _ _ F' N' fun p hp => .tail _ (.tail _ hp)
end
end Mine
-- M5
namespace Mine
/-- a wish that the walk lets stand -/
def Hold (P : Prop) : Prop := P
/-- a wall: the walk lets it stand -/
def Stop (P : Prop) : Prop := P
theorem stop_it {P : Prop} (h : Stop P) : P := h
theorem fill5 : PySem.Challenge.rw_wr0007_01 = PySem.Challenge.rw_wr0007_01 ∧ hd.heap_39 = hd.heap_39 := by
  w_top off
  k_fill
  exact ⟨rfl, rfl⟩
theorem inst_news {h₀ h : Heap} {L r d : Addr} {news : List (Addr × Obj)} {items : Array Value} {ep : Nat} {od : Obj} (N : News h₀ L h news) (h1 : (r, accObj d items ep) ∈ news) (h2 : (d, od) ∈ news) : PySem.W.InstAt h r (accObj d items ep) 108 (some od) :=
  inst_of (N _ h1).1 (N _ h2).1
theorem no_is {P : Params} {t t' : Tok} : (lookIn "part_count" (accDict P t t') = some none ∧ lookIn "is_onlyws" (accDict P t t') = some none) ∧ (lookIn "pop" (accDict P t t') = some none ∧ lookIn "push" (accDict P t t') = some none) ∧ lookIn "append" (accDict P t t') = some none :=
  ⟨⟨by rfl, by rfl⟩, ⟨by rfl, by rfl⟩, by rfl⟩
theorem keep_fn {P : Params} : (keepIn (hd.heap_39 P) (.ref 105) = true ∧ keepIn (hd.heap_39 P) (.ref 97) = true) ∧ keepIn (hd.heap_39 P) (.ref 68) = true ∧ keepIn (hd.heap_39 P) (.ref 52) = true := ⟨⟨by kernel_rfl, by kernel_rfl⟩, by kernel_rfl, by kernel_rfl⟩
local macro_rules | `(tactic| k_room) => `(tactic| ktr_room)
local macro_rules | `(tactic| k_units) => `(tactic| ktr_units)
local macro_rules | `(tactic| walk_at "getMethod ref") => `(tactic| ((with_reducible show wpAny _ _ (getMethod (Value.ref _) (Str.ofString "part_count") _) _ _ _); refine stop_it ?_))
section
variable {w : World} {A₀ A : Around} {base h₀ : Heap} {outer : List Env} {env : Env} {L : Addr} {m mg mb : Str → Option Value} {news : List (Addr × Obj)} {p : Program} {loose : List Str} {mean : ExcName → Option Value}
  {R : Result → Shared → Prop} {s : Shared} {r d : Addr} {items : Array Value} {ep : Nat} {t t' : Tok}

theorem pop_body {v : Value} {E : Value → Shared → Prop} {Q : Fin → Shared → Prop} {od : Obj} (I : PySem.W.InstAt s.heap r (accObj d (items.push v) ep) 108 (some od)) (hsz : items.size < 1000)
    (h : ∀ h', Heap.SameBut r s.heap h' → h'.get? r = some (accObj d items (ep + 1)) → Q (.done (.ret v)) { s with heap := h' }) : wpAny (model P0 w) A (Builtin.«list.pop» ⟨[.ref r], []⟩) Q E s := by
  obtain ⟨hh, g, dr, t, os⟩ := s
  have hl := I.at_
  have hsz2 : (items.push v).size ≤ sizeLine := by rw [Array.size_push]; unfold sizeLine; omega
  have hne : ¬ (items.push v).isEmpty = true := by simp
  have hk : seqIndex? (-1) (items.push v).size = some ((items.push v).size - 1) := by
    have e1 : (items.push v).size = items.size + 1 := by simp
    rw [seqIndex_neg (by omega) (by omega)]; congr 1; omega
  have hy : (items.push v)[(items.push v).size - 1]? = some v := by simp
  unfold Builtin.«list.pop»
  wp_walk using AutoSeq1.wpAny_loadPart' hl
  simp only [hk, hy, Option.bind_some, Option.map_some]
  have hz' : ((items.push v).eraseIdxIfInBounds ((items.push v).size - 1)).size ≤ sizeLine + 1 := Nat.le_trans (PySem.MeetsSeq.size_erased _ _) (Nat.le_succ_of_le hsz2)
  wp_walk using (wpAny_updateSeq hl rfl (hz := hsz2) (_hz' := hz')), AutoSeq1.wpAny_loadPart' hl
  refine h _ (Heap.SameBut.update ..) ?_
  rw [Heap.get?_update_self _ hl (by rw [mapSeq_acc_pop]; rfl), mapSeq_acc_pop]

set_option maxHeartbeats 2000000 in
theorem c_pop {v : Value} (B : Below A₀ base outer h₀) (F : Fr h₀ L s.heap m) (X₀ : (hd.heap_39 w.params).In h₀) (N : News h₀ L s.heap news) (T : Top p loose mean mg mb h₀) (hA : A.frames = some (env :: outer)) (hf : env.frame = some L) (hke : env.scope.kind = .function)
    (hD : A.depth + 40 < recursionLimit) (hU : A.units + 40 < cLine) (hsz : items.size < 1000) (h1 : (r, accObj d (items.push v) ep) ∈ news) (h2 : (d, accDict w.params t t') ∈ news)
    (h : ∀ h' news' tk, Fr h₀ L h' m → News h₀ L h' news' → SubX r news news' → (r, accObj d items (ep + 1)) ∈ news' → R (.ok (.ret v)) { s with heap := h', toks := tk }) :
    codeAny (model P0 w) A (.call (.ref 68) ⟨[.ref r], []⟩) R s := by
  obtain ⟨hnd, dp, fr, gd, un⟩ := A
  dsimp only at hA hD hU
  subst hA
  refine' ks_code_super (K := hd.heap_39 w.params) (prog := P0) (binds := [("self", .ref r)]) B F X₀ N T rfl hf hke ?k6 ?k7 ?k8 ?k9 ?kB ?_ ?c1 ?c2 ?c3 ?c4
  case k6 => k_is
  case k7 => k_is
  case k8 => dsimp only; omega
  case k9 => exact BindsTo.of_eq rfl
  case kB => exact locs rfl
  case c1 => decide
  case c2 => exact rfl
  case c3 => exact rfl
  case c4 => exact rfl
  intro g L' h₁ FG F₁ N₁ B₁ X₁ T₁ l₁
  refine ks_wpAt_execs_cons ?_
  refine ks_wpAt_If ?_
  refine ks_wpAt_mono (Q := fun b s' => Hold (b = false ∧ ∃ h₂ news₂ tk₂, s' = { s with heap := h₂, toks := tk₂ } ∧ Fr g L' h₂ (fun y => List.lookup y [(("self" : Str), Value.ref r)].reverse) ∧ News g L' h₂ news₂ ∧ Sub news news₂)) (E := fun _ _ => False) ?_ ?_ (fun _ _ z => z.elim)
  · k_steps
    rotate_left 1
    refine acc_method (f := .ref 105) (tf := .type "function") (X₁.keeps F₁.keep) (inst_news N₁ h1 h2) f_pc (looks_typeIn (X₁.keeps F₁.keep) f_fn.2.1) (by decide) no_is.1.1 ?_
    refine callWith_K0 (X₁.keeps F₁.keep) keep_fn.1.1 ?_
    refine wpAny_call ?_
    refine c_pc B₁ F₁ X₁ N₁ T₁ rfl rfl rfl (by ktr_room) h1 h2 ?_
    intro h₂ news₂ tk₂ t₂ F₂ N₂ S₂
    have e1 : ((items.push v).size : Int) ≠ 0 := by rw [Array.size_push]; omega
    dsimp only
    generalize ((items.push v).size : Int) = n at e1
    k_steps
    exact ⟨by simp [e1], h₂, news₂, _, rfl, F₂, N₂, S₂⟩
  · rintro b s' ⟨rfl, h₂, news₂, tk₂, rfl, F₂, N₂, S₂⟩
    have h1₂ := S₂ _ h1
    have h2₂ := S₂ _ h2
    have I₂ := inst_news N₂ h1₂ h2₂
    refine wpAt_of_wpAny (wpAny_execs_nil ?_)
    refine ks_wpAt_execs_cons ?_
    refine ks_wpAt_Return_some ?_
    refine ks_wpAt_MethodCall ?_
    refine ks_node (prog := P0) (K := hd.heap_39 w.params) (x := r) F₂ X₁ N₂ T₁ (by k_is) (by rfl) (by rfl) I₂ (by k_is) (by rfl) (by first | rfl | decide +kernel) (by k_is) (by k_is) (by k_is) (by k_is) (by decide) (by rfl) (by rfl) (by rfl) (by rfl) (by decide +kernel) (by first | boot_by_name | rfl | kernel_rfl) ?_
    intro so h₃ F₃ N₃ l₃
    have I₃ := inst_news N₃ (.tail _ h1₂) (.tail _ h2₂)
    have X₃ : (KK w).In h₃ := X₁.keeps F₃.keep
    refine sup_method (id := "list.pop") (g' := "method_descriptor.__get__") (T' := "method_descriptor") (B' := "builtin_function_or_method") (N₃ _ (.head _)).1 X₃ I₃ (by kernel_rfl) type_pop slot_md.lookup (by decide +kernel) (acc_ne (s := { s with heap := h₃ }) X₃ I₃) ?_ ?_
    · intro A' E' Q' s' X' I' hq
      exact md_get X' I' type_pop (by decide +kernel) (by decide +kernel) hq
    · have F₄ := F₃.push { cls := .type "builtin_function_or_method", data := .fields #[.builtin "list.pop", .ref r] }
      have N₄ := News.push F₃ N₃ { cls := .type "builtin_function_or_method", data := .fields #[.builtin "list.pop", .ref r] }
      have hb := (N₄ _ (.head _)).1
      have I₄ := inst_news N₄ (.tail _ (.tail _ h1₂)) (.tail _ (.tail _ h2₂))
      have X₄ : (KK w).In _ := X₁.keeps F₄.keep
      refine super_call0 (id := "list.pop") (B' := "builtin_function_or_method") (r := r) (.inr rfl) hb ?_
      refine bound_call (id := "list.pop") (nm := "pop") (.inr rfl) hb X₄ I₄ (fun hq => check_pop X₄ I₄ hq) (by decide +kernel) PySem.F.entry_list_pop ?_
      refine pop_body I₄ hsz ?_
      intro h₅ sb₅ e₅
      obtain ⟨F₅, N₅⟩ := News.upd F₄ N₄ (.tail _ (.tail _ h1₂)) sb₅ e₅
      refine ⟨_, rfl, ?_⟩
      exact leaveK_ F₅ N₅ fun F' N' => h _ _ _ F' N' (fun p hp hne => subX_upd p (.tail _ (.tail _ (S₂ p hp))) hne) (.head _)
end
end Mine
-- M6
namespace Mine
theorem fill6 : PySem.Challenge.rw_wr0007_01 = PySem.Challenge.rw_wr0007_01 ∧ hd.heap_39 = hd.heap_39 := by
  w_top off
  k_fill
  exact ⟨rfl, rfl⟩
local macro_rules | `(tactic| k_room) => `(tactic| ktr_room)
local macro_rules | `(tactic| k_units) => `(tactic| ktr_units)
local macro_rules | `(tactic| walk_at "getMethod ref") => `(tactic| ((with_reducible show wpAny _ _ (getMethod (Value.ref _) (Str.ofString "append") _) _ _ _); refine stop_it ?_))
local macro_rules | `(tactic| walk_at "call builtin:list.append") => `(tactic| refine stop_it ?_)
abbrev tup2 (a b : Value) (n : Nat) : Obj := { cls := .type "tuple", data := .seq #[a, b] n }
section
variable {w : World} {A₀ A : Around} {base h₀ : Heap} {outer : List Env} {env : Env} {L : Addr} {m mg mb : Str → Option Value} {news : List (Addr × Obj)} {p : Program} {loose : List Str} {mean : ExcName → Option Value}
  {R : Result → Shared → Prop} {s : Shared} {r d : Addr} {items : Array Value} {ep : Nat} {t t' : Tok}

theorem type_append : typeOf (.builtin "list.append") = pure (.type "method_descriptor") := by show builtinType _ = _; rw [builtinType_eq_fast]; kernel_rfl
set_option maxHeartbeats 2000000 in
theorem c_push {a b : Value} (B : Below A₀ base outer h₀) (F : Fr h₀ L s.heap m) (X₀ : (hd.heap_39 w.params).In h₀) (N : News h₀ L s.heap news) (T : Top p loose mean mg mb h₀) (hA : A.frames = some (env :: outer)) (hf : env.frame = some L) (hke : env.scope.kind = .function)
    (hD : A.depth + 40 < recursionLimit) (hU : A.units + 40 < cLine) (hsz : items.size < 1000) (h1 : (r, accObj d items ep) ∈ news) (h2 : (d, accDict w.params t t') ∈ news)
    (h : ∀ h' news' tk q, Fr h₀ L h' m → News h₀ L h' news' → SubX r news news' → (q, tup2 a b 0) ∈ news' → (r, accObj d (items.push (.ref q)) (ep + 1)) ∈ news' → R (.ok (.ret .none)) { s with heap := h', toks := tk }) :
    codeAny (model P0 w) A (.call (.ref 52) ⟨[.ref r, a, b], []⟩) R s := by
  obtain ⟨hnd, dp, fr, gd, un⟩ := A
  dsimp only at hA hD hU
  subst hA
  refine' code_def (K := hd.heap_39 w.params) (prog := P0) (binds := [("self", .ref r), ("fws", a), ("string", b)]) B F X₀ N T rfl hf hke ?k6 ?k7 ?k8 ?k9 ?kB ?_ ?c1 ?c2 ?c3 ?c4
  case k6 => k_is
  case k7 => k_is
  case k8 => dsimp only; omega
  case k9 => exact BindsTo.of_eq rfl
  case kB => exact locs rfl
  case c4 => decide
  case c2 => exact rfl
  case c3 => exact rfl
  case c1 => exact rfl
  intro g L' h₁ FG F₁ N₁ B₁ X₁ T₁
  have X₁' := X₁.keeps F₁.keep
  k_steps
  rotate_left 1
  refine acc_method (f := .builtin "list.append") (tf := .type "method_descriptor") (X₁.keeps F₁.keep) (inst_news N₁ h1 h2) f_append (Looks.of_pure type_append) (by decide) no_is.2.2 ?_
  k_steps
  rename_i q h₂ F₂ N₂ l₂
  refine acc_append (X₁.keeps F₂.keep) (inst_news N₂ (.tail _ h1) (.tail _ h2)) (by unfold sizeLine; omega) ?_
  intro h₃ sb₃ e₃
  obtain ⟨F₃, N₃⟩ := News.upd F₂ N₂ (.tail _ h1) sb₃ e₃
  refine wpAny_execs_nil ?_
  refine leaveK_ F₃ N₃ fun F' N' => h _ _ _ q F' N' (fun p hp hne => subX_upd p (.tail _ hp) hne) (subX_upd _ (.head _) ?_) (.head _)
  exact Ne.symm (Nat.ne_of_lt (l₂ _ h1))
end
end Mine
-- M7
namespace Mine
section
variable {P : Params}
theorem ln_split : splitId "list.__new__" = some ("list", "__new__") := by decide +kernel
theorem ln_kind : builtinKind "list.__new__" = some .builtinFn := by decide +kernel
theorem a_init : findIn (hd.heap_39 P) (.ref 108) "__init__" = some (some (.ref 45)) := by kernel_rfl
theorem a_call : specialIn (hd.heap_39 P) (.ref 108) "__call__" = some (some (.builtin "type.__call__")) := by kernel_rfl
theorem a_typ : instIn (hd.heap_39 P) (.ref 108) (.type "type") = some true := by kernel_rfl
theorem a_self : subIn (hd.heap_39 P) (.ref 108) (.ref 108) = some true := by kernel_rfl
theorem a_initfn : typeIn (hd.heap_39 P) (.ref 45) = some (.type "function") := by kernel_rfl
theorem a_look : ∃ o, (hd.heap_39 P).lookup 108 = some o ∧ o.data = .cls (accCls P) ∧ (o.slots.toList[4]?).join = some (.builtin "list.__new__") := by
  refine ⟨((hd.heap_39 P).lookup 108).getD default, ?_, ?_, ?_⟩
  · kernel_rfl
  · kernel_rfl
  · kernel_rfl
theorem a_del : (accCls P).hasDel = false := by kernel_rfl
theorem a_obj : ∃ oc od sl, (hd.heap_39 P).lookup 108 = some ⟨oc, od, .cls (accCls P), sl⟩ ∧ (accCls P).hasDel = false ∧ (sl.toList[4]?).join = some (.builtin "list.__new__") := by
  obtain ⟨⟨oc, od, dt, sl⟩, h1, h2, h3⟩ := a_look (P := P)
  dsimp only at h2 h3
  subst h2
  exact ⟨oc, od, sl, h1, a_del, h3⟩
theorem ln_checkE (a : Value) : ∃ sig, Manifest.signature? "list.__new__" = some sig ∧ Bind.checkArgs "list.__new__" sig ⟨[a], []⟩ = pure () := by
  refine ⟨(Manifest.signature? "list.__new__").get (by decide +kernel), by simp, ?_⟩
  kernel_rfl
end
section
variable {w : World} {A : Around} {R : Result → Shared → Prop} {h : Heap} {g : Array GenState} {d : Drawn} {t : Nat} {os : OsState}
theorem a_made {M : Model} (X : (KK w).In h) : Looks M h (Bind.madeBy (.ref 108)) (some "list.__new__") := by
  obtain ⟨oc, od, sl, ho, e2, e3⟩ := a_obj (P := w.params)
  have hm : Looks M h (mroOf (.ref 108)) (accCls w.params).mro := (looks_clsIn X f_clsIn).andThen .now
  intro A Q E s k q
  unfold Bind.madeBy
  refine wpAny_bind (hm A _ E s k ?_)
  rw [f_mro, List.forIn_cons]
  refine wpAny_bind (wpAny_bind (wpAny_bind (wpAny_bind (wpAny_loadPart (k _ _ (X _ _ ho)) (wpAny_pure ?_)))))
  dsimp only
  rw [← Array.getElem?_toList, e3]
  exact wpAny_pure (wpAny_pure (wpAny_pure q))
theorem a_base {M : Model} (X : (KK w).In h) : Looks M h (Bind.staticBase (.ref 108)) (.ref 108) := by
  have hm : Looks M h (mroOf (.ref 108)) (accCls w.params).mro := (looks_clsIn X f_clsIn).andThen .now
  intro A Q E s k q
  unfold Bind.staticBase
  refine wpAny_bind (hm A _ E s k ?_)
  rw [f_mro, List.forIn_cons]
  exact wpAny_bind (wpAny_bind (wpAny_bind (a_made X A _ E s k (wpAny_pure (wpAny_pure (wpAny_pure q))))))

set_option maxHeartbeats 4000000 in
theorem new_acc (X : (KK w).In h) (hq : R (.ok (.ret (.ref (h.objs.size + 1)))) ⟨(h.push emptyDict).push (accObj h.objs.size #[] 0), g, d, t, os⟩) :
    codeAny (model P0 w) A (.call (.builtin "list.__new__") ⟨[.ref 108], []⟩) R ⟨h, g, d, t, os⟩ := by
  obtain ⟨oc, od, sl, ho, e2, e3⟩ := a_obj (P := w.params)
  have hC := X _ _ ho
  obtain ⟨sig, es, ea⟩ := ln_checkE (.ref 108)
  have made := a_made (M := model P0 w) X
  have base := a_base (M := model P0 w) X
  have sub := looks_subIn (M := model P0 w) X f_sub
  have hown := owner_list_new
  refine codeAny_call_builtin_code (Code.quiet_builtin _ (by decide +kernel)) ?_
  simp only [checkBuiltinCall, ln_kind, ln_split, es]
  rw [ea]
  repeat (first | simp only [bne_self_eq_false, Bool.false_eq_true, if_false] | lk)
  refine codeAny_builtin_stack F.entry_list_new rfl fun p st => ?_
  rw [Around.under_plainId F.plain_list_new _]
  simp only [hown]
  have hC2 : ((h.push emptyDict).push (accObj h.objs.size #[] 0)).get? 108 = some ⟨oc, od, .cls (accCls w.params), sl⟩ := Heap.get?_push_of_some _ (Heap.get?_push_of_some _ hC)
  repeat (first | with_reducible refine nd_load hC2 ?_ | simp only [Bool.false_eq_true, if_false, e2] | lk)
  rw [Heap.size_push]
  exact hq

set_option maxHeartbeats 4000000 in
theorem make_acc (X : (KK w).In h)
    (hq : codeAny (model P0 w) (A.under (.builtin "type.__call__" ⟨[.ref 108], []⟩)) (.call (.ref 45) ⟨[.ref (h.objs.size + 1)], []⟩) (InitBack (h.objs.size + 1) R) ⟨(h.push emptyDict).push (accObj h.objs.size #[] 0), g, d, t, os⟩) :
    codeAny (model P0 w) A (.call (.ref 108) ⟨[], []⟩) R ⟨h, g, d, t, os⟩ := by
  obtain ⟨oc, od, sl, ho, e2, e3⟩ := a_obj (P := w.params)
  have hC := X _ _ ho
  have made := a_made (M := model P0 w) X
  have call := looks_specialIn (M := model P0 w) X a_call
  have typ := looks_instIn (M := model P0 w) X a_typ
  have self := looks_subIn (M := model P0 w) X a_self
  have hi := looks_findIn (M := model P0 w) X a_init
  have e4 : (accCls w.params).mro.isEmpty = false := by rw [f_mro]; rfl
  refine codeAny_of_tree ?_
  show wpAny _ _ (callAny (.ref 108) _) _ _ _
  refine nd_load hC ?_
  show wpAny _ _ (callAny.viaDunder (.ref 108) _) _ _ _
  unfold callAny.viaDunder
  refine wpAny_bind (call.at ?_)
  dsimp only
  rw [tc_bind]
  refine wpAny_bind (wpAny_pure (wpAny_bind (wpAny_pure ?_)))
  refine wpAny_pure (a := Fin.again (.call (.builtin "type.__call__") ⟨[.ref 108], []⟩)) (And.intro rfl ?_)
  refine codeAny_call_builtin_at (Code.quiet_builtin _ (by decide +kernel)) entry_typeCall (check_slot tc_kind tc_split typ (tc_args _ _ _) ?_)
  unfold Builtin.«type.__call__»
  have hm : Looks (model P0 w) h (mroOf (.ref 108)) (accCls w.params).mro := ((Looks.ld (part := none) hC).andThen .now).andThen .now
  repeat (first | simp only [e4, Bool.false_eq_true, if_false] | with_reducible refine wpAny_call ?_ | lk)
  refine new_acc X ?_
  have k : ∀ b o, h.get? b = some o → ((h.push emptyDict).push (accObj h.objs.size #[] 0)).get? b = some o := fun b o e => Heap.get?_push_of_some _ (Heap.get?_push_of_some _ e)
  have hx : ((h.push emptyDict).push (accObj h.objs.size #[] 0)).get? (h.objs.size + 1) = some (accObj h.objs.size #[] 0) := by heap_get
  have t1 : Looks (model P0 w) ((h.push emptyDict).push (accObj h.objs.size #[] 0)) (typeOf (.ref (h.objs.size + 1))) (.ref 108) := (Looks.ld hx).andThen .now
  have s1 := self.keeps k
  have i1 := hi.keeps k
  have b1 := (bind_fn (M := model P0 w) X (.ref (h.objs.size + 1)) a_initfn).keeps k
  unfold isInstance callSpecial? specialOf
  repeat (first | with_reducible refine wpAny_call ?_ | lk)
  refine codeAny_mono hq fun r s' z => ?_
  rcases r with e | (v | _ | _ | _) <;> first | exact z | exact z.elim | skip
  obtain ⟨rfl, z⟩ := z
  exact wpAny_pure (wpAny_pure z)
end
section
variable {w : World} {A₀ A : Around} {base h₀ : Heap} {outer : List Env} {env : Env} {L : Addr} {m mg mb : Str → Option Value} {news : List (Addr × Obj)} {p : Program} {loose : List Str} {mean : ExcName → Option Value}
  {E : Value → Shared → Prop} {R : Result → Shared → Prop} {s : Shared} {r d : Addr} {items : Array Value} {ep : Nat} {t t' : Tok}
theorem a_setattr {P : Params} : findIn (hd.heap_39 P) (.ref 108) "__setattr__" = some (some (.builtin "object.__setattr__")) := by kernel_rfl
theorem a_subobj {P : Params} : subIn (hd.heap_39 P) (.ref 108) (.type "object") = some true := by kernel_rfl
theorem a_hasDict {P : Params} : (accCls P).hasDict = true := by kernel_rfl
theorem a_refuse (self : Value) : refuseLoop self "__setattr__" [.ref 108, .type "list", .type "object"] = pure () := by
  rw [refuseLoop_ref]; kernel_rfl
theorem put_is {P : Params} {t t' : Tok} : Obj.putName "_initial_size" (PyData.keyHash P "_initial_size") (.str "_initial_size" t) (.int 0 t') emptyDict = accDict P t t' := by rfl

set_option maxHeartbeats 4000000 in
theorem setattr_acc {Q : Unit → Shared → Prop} (F : Fr h₀ L s.heap m) (N : News h₀ L s.heap news) (X : (KK w).In s.heap) (h1 : (r, accObj d items ep) ∈ news) (h2 : (d, emptyDict) ∈ news)
    (h : ∀ h' news' t tk, Fr h₀ L h' m → News h₀ L h' news' → SubX d news news' → (d, accDict w.params t t') ∈ news' → Q () { s with heap := h', toks := tk }) :
    wpAny (model P0 w) A (setAttr (.ref r) "_initial_size" (.int 0 t')) Q E s := by
  obtain ⟨hh, gg, dd, tk, os⟩ := s
  have I := inst_news N h1 h2
  refine set_plain X I a_setattr ?_
  have SF := PySem.F.store_object
  have sub : Looks (model P0 w) hh (isInstance (.ref r) (.type "object")) true := I.type.andThen (looks_subIn X a_subobj)
  refine codeAny_call_builtin SF.slot.plain SF.entry (@check_slot (model P0 w) _ _ ⟨hh, gg, dd, tk + 1, os⟩ "object.__setattr__" "object" "__setattr__" (.ref r) [.str "_initial_size" tk, .int 0 t'] [] _ SF.kind SF.split sub (SF.args (.ref r) (.str "_initial_size" tk) (.int 0 t')) ?_)
  have hm : Looks (model P0 w) hh (mroOf (.ref 108)) (accCls w.params).mro := (looks_clsIn X f_clsIn).andThen .now
  rw [osa_eq, refuse_eq]
  refine wpAny_bind (wpAny_bind (I.type.at (wpAny_bind (hm.at ?_))))
  rw [f_mro, a_refuse]
  refine wpAny_pure (wpAny_bind (I.type.at (wpAny_bind ((looks_findIn X f_is).at (wpAny_bind (wpAny_pure ?_))))))
  dsimp only
  have hx := I.at_
  have hD := I.dict
  dsimp only at hx hD
  obtain ⟨F', N'⟩ := News.upd F N h2 (Heap.SameBut.update hh d (Obj.putName "_initial_size" (PyData.keyHash w.params "_initial_size") (.str "_initial_size" (tk + 1)) (.int 0 t'))) (o' := accDict w.params (tk + 1) t') (by rw [Heap.get?_update_self _ hD (by rw [put_is]; rfl), put_is])
  have D' := (N' _ (.head _)).1
  refine wpAny_bind (wpAny_pure (wpAny_bind (wpAny_bind (wpAny_loadPart hx (wpAny_bind ((looks_clsIn X f_clsIn).at ?_))))))
  rw [a_hasDict]
  refine wpAny_pure (a := some d) (wpAny_bind (wpAny_pure (wpAny_bind ?_)))
  unfold nsSet
  refine wpAny_bind (wpAny_bind (wpAny_askSetting (wpAny_pure (wpAny_bind (wpAny_mkText (wpAny_bind (wpAny_loadPart hD ?_)))))))
  dsimp only
  rw [aRefKeyMayBeTheName_at]
  rw [if_neg (by simp)]
  refine wpAny_updatePart hD ?_
  refine wpAny_bind (wpAny_lookBehind D' (pastItsLine_dict (by rw [sizeLine_eq]; simp)) ?_)
  exact wpAny_pure (h _ _ _ _ F' N' subX_upd (.head _))
end
end Mine
-- M8
namespace Mine
theorem fill8 : PySem.Challenge.rw_wr0007_01 = PySem.Challenge.rw_wr0007_01 ∧ hd.heap_39 = hd.heap_39 := by
  w_top off
  k_fill
  exact ⟨rfl, rfl⟩
local macro_rules | `(tactic| k_room) => `(tactic| ktr_room)
local macro_rules | `(tactic| k_units) => `(tactic| ktr_units)
section
variable {w : World} {A₀ A : Around} {base h₀ : Heap} {outer : List Env} {env : Env} {L : Addr} {m mg mb : Str → Option Value} {news : List (Addr × Obj)} {p : Program} {loose : List Str} {mean : ExcName → Option Value}
  {E : Value → Shared → Prop} {R : Result → Shared → Prop} {s : Shared} {r d : Addr} {items : Array Value} {ep : Nat} {t t' : Tok}

theorem init_body {E : Value → Shared → Prop} {Q : Fin → Shared → Prop} {od : Obj} (I : PySem.W.InstAt s.heap r (accObj d #[] ep) 108 (some od))
    (h : ∀ h', Heap.SameBut r s.heap h' → h'.get? r = some (accObj d #[] ep) → Q (.done (.ret .none)) { s with heap := h' }) : wpAny (model P0 w) A (Builtin.«list.__init__» ⟨[.ref r], []⟩) Q E s := by
  obtain ⟨hh, g, dr, t, os⟩ := s
  have hl := I.at_
  unfold Builtin.«list.__init__»
  wp_walk using AutoSeq1.wpAny_loadPart' hl
  refine h _ (Heap.SameBut.update ..) ?_
  rw [Heap.get?_update_self _ hl (by simp [Obj.mapSeq, Obj.isFreed])]
  simp [Obj.mapSeq]

set_option maxHeartbeats 2000000 in
theorem c_init (B : Below A₀ base outer h₀) (F : Fr h₀ L s.heap m) (X₀ : (hd.heap_39 w.params).In h₀) (N : News h₀ L s.heap news) (T : Top p loose mean mg mb h₀) (hA : A.frames = some (env :: outer)) (hf : env.frame = some L) (hke : env.scope.kind = .function)
    (hD : A.depth + 40 < recursionLimit) (hU : A.units + 40 < cLine) (h1 : (r, accObj d #[] 0) ∈ news) (h2 : (d, emptyDict) ∈ news) (hrd : r ≠ d)
    (h : ∀ h' news' tk t t', Fr h₀ L h' m → News h₀ L h' news' → (∀ p ∈ news, p.1 ≠ r → p.1 ≠ d → p ∈ news') → (r, accObj d #[] 0) ∈ news' → (d, accDict w.params t t') ∈ news' → R (.ok (.ret .none)) { s with heap := h', toks := tk }) :
    codeAny (model P0 w) A (.call (.ref 45) ⟨[.ref r], []⟩) R s := by
  obtain ⟨hnd, dp, fr, gd, un⟩ := A
  dsimp only at hA hD hU
  subst hA
  refine' ks_code_super (K := hd.heap_39 w.params) (prog := P0) B F X₀ N T rfl hf hke ?k6 ?k7 ?k8 ?k9 ?kB ?_ ?c1 ?c2 ?c3 ?c4
  case k6 => k_is
  case k7 => k_is
  case k8 => dsimp only; omega
  case k9 => exact binds_K (X₀.keeps F.keep) rfl (by k_is) rfl rfl rfl
  case kB => exact locs rfl
  case c1 => decide
  case c2 => exact rfl
  case c3 => exact rfl
  case c4 => exact rfl
  intro g L' h₁ FG F₁ N₁ B₁ X₁ T₁ l₁
  refine ks_wpAt_execs_cons ?_
  refine wpAt_of_wpAny ?_
  k_steps
  refine setattr_acc F₁ N₁ (X₁.keeps F₁.keep) h1 h2 ?_
  intro h₂ news₂ t₂ tk₂ F₂ N₂ S₂ hd₂
  dsimp only
  have h1₂ := S₂ _ h1 hrd
  have I₂ := inst_news N₂ h1₂ hd₂
  refine ks_wpAt_execs_cons ?_
  refine ks_wpAt_Expr_any ?_
  refine ks_wpAt_MethodCall ?_
  refine ks_node (prog := P0) (K := hd.heap_39 w.params) (x := r) F₂ X₁ N₂ T₁ (by k_is) (by rfl) (by rfl) I₂ (by k_is) (by rfl) (by first | rfl | decide +kernel) (by k_is) (by k_is) (by k_is) (by k_is) (by decide) (by rfl) (by rfl) (by rfl) (by rfl) (by decide +kernel) (by first | boot_by_name | rfl | kernel_rfl) ?_
  intro so h₃ F₃ N₃ l₃
  have I₃ := inst_news N₃ (.tail _ h1₂) (.tail _ hd₂)
  have X₃ : (KK w).In h₃ := X₁.keeps F₃.keep
  refine sup_method (id := "list.__init__") (g' := "wrapper_descriptor.__get__") (T' := "wrapper_descriptor") (B' := "method-wrapper") (N₃ _ (.head _)).1 X₃ I₃ (by kernel_rfl) type_init slot_wd.lookup (by decide +kernel) (acc_ne (s := { s with heap := h₃ }) X₃ I₃) ?_ ?_
  · intro A' E' Q' s' X' I' hq
    exact wd_get X' I' type_init (by decide +kernel) hq
  · have F₄ := F₃.push { cls := .type "method-wrapper", data := .fields #[.builtin "list.__init__", .ref r] }
    have N₄ := News.push F₃ N₃ { cls := .type "method-wrapper", data := .fields #[.builtin "list.__init__", .ref r] }
    have hb := (N₄ _ (.head _)).1
    have I₄ := inst_news N₄ (.tail _ (.tail _ h1₂)) (.tail _ (.tail _ hd₂))
    have X₄ : (KK w).In _ := X₁.keeps F₄.keep
    refine super_call0 (id := "list.__init__") (B' := "method-wrapper") (r := r) (.inl rfl) hb ?_
    refine bound_call (id := "list.__init__") (nm := "__init__") (.inl rfl) hb X₄ I₄ (fun hq => check_init hq) (by decide +kernel) PySem.F.entry_list_init ?_
    refine init_body I₄ ?_
    intro h₅ sb₅ e₅
    obtain ⟨F₅, N₅⟩ := News.upd F₄ N₄ (.tail _ (.tail _ h1₂)) sb₅ e₅
    refine ⟨_, rfl, ?_⟩
    dsimp only
    refine wpAt_of_wpAny (wpAny_execs_nil ?_)
    refine leaveK_ F₅ N₅ fun F' N' => h _ _ _ _ _ F' N' (fun p hp hne hnd => subX_upd p (.tail _ (.tail _ (S₂ p hp hnd))) hne) (.head _) (subX_upd _ (.tail _ (.tail _ hd₂)) (Ne.symm hrd))

/-- row = _Accumulator() -/
theorem c_make {Q : Value → Shared → Prop} (B : Below A₀ base outer h₀) (F : Fr h₀ L s.heap m) (X₀ : (hd.heap_39 w.params).In h₀) (N : News h₀ L s.heap news) (T : Top p loose mean mg mb h₀) (hA : A.frames = some (env :: outer)) (hf : env.frame = some L) (hke : env.scope.kind = .function)
    (hD : A.depth + 50 < recursionLimit) (hU : A.units + 50 < cLine)
    (h : ∀ h' news' tk r d t t', Fr h₀ L h' m → News h₀ L h' news' → Sub news news' → (∀ q ∈ news, q.1 < d) → d < r → (r, accObj d #[] 0) ∈ news' → (d, accDict w.params t t') ∈ news' → Q (.ref r) { s with heap := h', toks := tk }) :
    wpAny (model P0 w) A (call (.ref 108) []) Q E s := by
  obtain ⟨hh, gg, dd, tk, os⟩ := s
  refine wpAny_call (make_acc (X₀.keeps F.keep) ?_)
  have N' := (N.push F emptyDict).push (F.push _) (accObj hh.objs.size #[] 0)
  rw [Heap.size_push] at N'
  have F' := (F.push emptyDict).push (accObj hh.objs.size #[] 0)
  refine c_init (A := A.under _) (d := hh.objs.size) B F' X₀ N' T ?_ hf hke ?_ ?_ (.head _) (.tail _ (.head _)) (Nat.succ_ne_self _) ?_
  · exact hA
  · rw [depth_under_make]; omega
  · have e : (A.under (.builtin "type.__call__" ⟨[.ref 108], []⟩)).units ≤ A.units + 4 := by simp [Around.under, Code.cUnits, Code.frames, Code.isFrame]
    omega
  · intro h' news' tk t t' F₂ N₂ S₂ a b
    refine ⟨rfl, h _ _ _ _ _ _ _ F₂ N₂ (fun p hp => S₂ p (.tail _ (.tail _ hp)) ?_ ?_) (fun q hq => Heap.lt_size (N q hq).1) (Nat.lt_succ_self _) a b⟩
    · exact Nat.ne_of_lt (Nat.lt_succ_of_lt (Heap.lt_size (N p hp).1))
    · exact Nat.ne_of_lt (Heap.lt_size (N p hp).1)
end
end Mine
-- M9
namespace Mine
/-- the code table of a def that holds one generator expression or lambda at pos -/
def GenTab (pos : Pos) (o : Obj) : Prop := ∃ ps, o = tabObj ps ∧ TriplesOk ps.toList ∧ (codeAmong pos ps.toList = none ∨ ∃ c', codeAmong pos ps.toList = some (.ref c'))
theorem GenTab.nil (pos : Pos) : GenTab pos (tabObj #[]) := ⟨#[], rfl, trivial, .inl rfl⟩

section
variable {M : Model} {prog : Program} {w : World} {A : Around} {E : Value → Shared → Prop} {s : Shared}
theorem code_gen {env : Env} {c P : Addr} {o : Obj} {pos : Pos} {qualname : Str} {scope : Scope} {Q : Value → Shared → Prop} (hc : env.code = .ref c) (C : CodeHd s.heap c P) (hP : s.heap.get? P = some o) (G : GenTab pos o)
    (hQ : ∀ c' h' tk o', Heap.ExtBut P s.heap h' → s.heap.objs.size ≤ h'.objs.size → h'.get? P = some o' → GenTab pos o' → Q (.ref c') { s with heap := h', toks := tk }) :
    wpAny M A (genexprCode env pos qualname scope) Q E s := by
  obtain ⟨ps, rfl, ht, hnf | ⟨c', hf⟩⟩ := G
  · refine wpAny_genexprCodeX hc (C.code hP ht) (C.tab hP) hnf fun c' h' tk hx hge hlt hcode hrec htab _ => ?_
    refine hQ c' h' tk _ hx (Nat.le_trans hge (Nat.le_of_lt hlt)) htab.2 ⟨_, rfl, ?_, .inr ⟨c', ?_⟩⟩
    · rw [show (ps ++ #[rawInt pos.line, rawInt pos.col, Value.ref c']).toList = ps.toList ++ [rawInt pos.line, rawInt pos.col, .ref c'] by simp]
      exact TriplesOk_snoc _ _ _ _ ht
    · rw [show (ps ++ #[rawInt pos.line, rawInt pos.col, Value.ref c']).toList = ps.toList ++ [rawInt pos.line, rawInt pos.col, .ref c'] by simp]
      exact codeAmong_snoc _ ht hnf
  · obtain ⟨o, vs, file, tf, flags, tg, inF, text, tt, op, ho, hd, h11, h2, h7, h9, h10, hop, hpd, htr, hne⟩ := C.code hP ht
    unfold genexprCode codeAt
    rw [hc, if_neg (show ¬ ((Value.ref c == Value.none) = true) from Bool.false_ne_true)]
    refine wpAny_bind (wpAny_fieldsOf ho hd ?_)
    rw [h11]
    refine wpAny_bind (wpAny_fieldsOf hop hpd ?_)
    rw [hf]
    exact wpAny_pure (hQ c' s.heap s.toks _ (fun b o _ e => e) (Nat.le_refl _) hP ⟨ps, rfl, ht, .inr ⟨c', hf⟩⟩)

theorem next_item {it l : Addr} {i : Nat} {items : Array Value} {d : Addr} {ep : Nat} {x : Value} {Q : Option Value → Shared → Prop} (hit : s.heap.IsListIter it l i)
    (hl : s.heap.get? l = some (accObj d items ep)) (hx : items[i]? = some x)
    (hQ : ∀ h', h'.IsListIter it l (i + 1) → Heap.SameBut it s.heap h' → Q (some x) { s with heap := h' }) :
    wpAny (model prog w) A (pyNext (.ref it)) Q E s := by
  obtain ⟨o, ho, hc, hd⟩ := id hit
  unfold pyNext
  refine wpAny_bind (wpAny_attempt (wpAny_callSpecial?_slot (name := Str.ofString "__next__") hit.typeIs slot_listiter_next
    (wpAny_call_entry slot_listiter_next hit.typeIs entry_listiter_next ?_ (args_listiter_next _))))
  show wpAny _ _ (field (.ref it) 0 >>= _) _ _ s
  refine wpAny_bind (wpAny_field ho hd (x := .ref l) rfl ?_)
  show wpAny _ _ (if (Value.ref l == Value.none) = true then _ else _) _ _ s
  rw [if_neg (show ¬ ((Value.ref l == Value.none) = true) from Bool.false_ne_true)]
  show wpAny _ _ (field (.ref it) 1 >>= _) _ _ s
  refine wpAny_bind (wpAny_field ho hd (x := .int i 0) rfl ?_)
  show wpAny _ _ (seqItems? (.ref l) >>= _) _ _ s
  refine wpAny_bind (wpAny_seqItems hl rfl ?_)
  simp only [Int.toNat_natCast, hx]
  refine wpAny_bind (wpAny_setField ho hd (by simp) (wpAny_pure ⟨x, rfl, wpAny_pure (hQ _ ?_ (Heap.SameBut.update ..))⟩))
  exact ⟨_, Heap.get?_update_self _ ho (Obj.isFreed_of_fields (Obj.data_mapFields hd _)), (Obj.cls_mapFields ..).trans hc, by
    rw [Obj.data_mapFields hd]; simp [rawInt]⟩

theorem next_end {it l : Addr} {i : Nat} {items : Array Value} {d : Addr} {ep : Nat} {Q : Option Value → Shared → Prop} (hh : A.handled = none)
    (hit : s.heap.IsListIter it l i) (hl : s.heap.get? l = some (accObj d items ep)) (hx : items[i]? = none)
    (hQ : ∀ h', Heap.ExtBut it s.heap h' → Q none { s with heap := h' }) : wpAny (model prog w) A (pyNext (.ref it)) Q E s := by
  obtain ⟨o, ho, hc, hd⟩ := id hit
  unfold pyNext
  refine wpAny_bind (wpAny_attempt (wpAny_callSpecial?_slot (name := Str.ofString "__next__") hit.typeIs slot_listiter_next
    (wpAny_call_entry slot_listiter_next hit.typeIs entry_listiter_next ?_ (args_listiter_next _))))
  show wpAny _ _ (field (.ref it) 0 >>= _) _ _ s
  refine wpAny_bind (wpAny_field ho hd (x := .ref l) rfl ?_)
  show wpAny _ _ (if (Value.ref l == Value.none) = true then _ else _) _ _ s
  rw [if_neg (show ¬ ((Value.ref l == Value.none) = true) from Bool.false_ne_true)]
  show wpAny _ _ (field (.ref it) 1 >>= _) _ _ s
  refine wpAny_bind (wpAny_field ho hd (x := .int i 0) rfl ?_)
  show wpAny _ _ (seqItems? (.ref l) >>= _) _ _ s
  refine wpAny_bind (wpAny_seqItems hl rfl ?_)
  simp only [Int.toNat_natCast, hx]
  refine wpAny_bind (wpAny_rule (wpAny_bind (wpAny_setField ho hd (by simp) ?_)))
  show wpAny _ _ (newExc (.type "StopIteration") [] >>= _) _ _ _
  refine wpAny_bind ?_
  simp only [newExc, newTuple]
  refine wpAny_bind (wpAny_newObj_type ?_ (by size_fits))
  refine wpAny_bind (m := firstArgMember _ _) (wpAny_of_eq (a := Value.none) (by first | rfl | (simp only [firstArgMember]; rfl)) ?_)
  refine wpAny_newObj_type ?_ (by size_fits)
  simp only [raiseNew]
  refine wpAny_bind (wpAny_handled ?_)
  rw [show A.in1.handled = none from hh]
  refine wpAny_bind (wpAny_pure (wpAny_throw ?_))
  refine wpAny_bind (wpAny_isInstance (T := "StopIteration") (b := true) ⟨_, Heap.get?_push_size _ rfl, rfl⟩ isSubtype_stop ?_)
  exact wpAny_pure (hQ _ (((Heap.SameBut.update ..).extBut.push _).push _))

/-- the walk over an accumulator of pairs -/
theorem walks_acc (hh : A.handled = none) (I ax d : Addr) (ep : Nat) (hne : ax ≠ I) (items : Array Value) (Ts : Nat → Addr) (vals : Nat → Array Value)
    (hit : ∀ j, j < items.size → items[j]? = some (.ref (Ts j))) (hTI : ∀ j, j < items.size → Ts j ≠ I) :
    WalksU prog w A I (I :: ax :: (List.range items.size).map Ts) [I] items.size (fun j v => v = vals j)
      (fun j h => h.IsListIter I ax j ∧ h.get? ax = some (accObj d items ep) ∧ ∀ k, k < items.size → h.IsTuple (Ts k) (vals k))
      (fun j T h => (j < items.size ∧ T = Ts j) ∧ h.IsListIter I ax (j + 1) ∧ h.get? ax = some (accObj d items ep) ∧ ∀ k, k < items.size → h.IsTuple (Ts k) (vals k)) where
  sub := fun b hb => by simp at hb; simp [hb]
  frame := fun _ _ _ st hk => ⟨st.1.at fun o e => hk I (by simp) o e, hk ax (by simp) _ st.2.1,
    fun k hk' => (st.2.2 k hk').at fun o e => hk (Ts k) (List.mem_cons_of_mem _ (List.mem_cons_of_mem _ (List.mem_map.mpr ⟨k, List.mem_range.mpr hk', rfl⟩))) o e⟩
  item := fun i s Q E hi st hQ => by
    refine next_item st.1 st.2.1 (x := .ref (Ts i)) (hit i hi) fun h' hit' hs' => ?_
    have tup : ∀ k, k < items.size → h'.IsTuple (Ts k) (vals k) := fun k hk' => (st.2.2 k hk').extBut hs'.extBut (hTI k hk')
    exact hQ (Ts i) (vals i) h' s.toks rfl (tup i hi) ⟨⟨hi, rfl⟩, hit', hs'.extBut _ _ hne st.2.1, tup⟩ fun b o hb e => hs'.extBut b o (fun h => hb (by simp [h])) e
  go := fun _ _ _ _ _ s Q _ hm hQ => wpAny_letOwnedTupleGo_listiter hm.2.1 (hQ s.heap hm.2 fun _ _ _ e => e)
  apart := fun j T _ hm hmem => by
    rcases List.mem_cons.mp hmem with e | e
    · exact hTI j hm.1.1 (hm.1.2 ▸ e)
    · cases e
  done := fun s Q E st hQ => next_end hh st.1 st.2.1 (by simp) fun h' he' => hQ h' s.toks fun b o hb e => he' b o (fun h => hb (by simp [h])) e
  self := fun _ _ _ _ st hQ => wpAny_pyIter_listiter st.1 hQ

theorem args_sum2 (x y : Value) : argsOk "sum" ⟨[x, y], []⟩ := by unfold argsOk; kernel_rfl
theorem bind_sum (t : Tok) : Builtin.Builtins.bindParams "sum" ["start"] 0 ⟨[.int 0 t], []⟩ = pure [some (.int 0 t)] := by kernel_rfl

theorem call_sum_start {x : Value} {t0 : Tok} {Q : Value → Shared → Prop}
    (h : wpAny (model prog w) A.in1 (pyIter x) (fun it s₂ => ∃ I fp wr G n P St val, it = .ref I ∧ WalksS prog w A.in1 I fp wr G n P St ∧ St 0 s₂ ∧ (∀ b ∈ fp, b < s₂.heap.objs.size) ∧
      (∀ i v, P i v → ∃ t, v = .int (val i) t) ∧ (∀ j, j < n → InLong (val j) ∧ InLong (preSum val (j + 1))) ∧
      ∀ s' t', Moved wr G s₂ s' → Q (.int (preSum val n) t') s') E s) :
    wpAny (model prog w) A (call (.builtin "sum") [x, .int 0 t0]) Q E s := by
  refine call_function_tree F.kind_sum F.plain_sum F.entry_sum (args_sum2 _ _) ?_
  unfold Builtin.«sum»
  simp only [List.length_cons, List.length_nil]
  rw [if_neg (by decide)]
  refine wpAny_bind (wpAny_of_eq (bind_sum t0) ?_)
  refine wpAny_bind (wpAny_mono h (fun it s₂ h₂ => ?_) fun _ _ e => e)
  obtain ⟨I, fp, wr, G, n, P, St, val, rfl, W, hst, hfp, hval, hfit, hQ⟩ := h₂
  refine wpAny_bind ?_
  refine wpAny_rule ?_
  refine wpAny_bind (wpAny_mkInt ?_)
  refine wpAny_bind (wpAny_pure ?_)
  simp only [List.forIn_cons, List.forIn_nil]
  refine wpAny_bind (wpAny_bind (wpAny_bind (wpAny_isInstance (T := "int") (b := false) (typeIs_int _ _ _) PySem.sub_int_str ?_)))
  simp only [Bool.false_eq_true, if_false]
  refine wpAny_pure (wpAny_bind (wpAny_bind (wpAny_isInstance (T := "int") (b := false) (typeIs_int _ _ _) PySem.sub_int_bytes ?_)))
  simp only [Bool.false_eq_true, if_false]
  refine wpAny_pure (wpAny_bind (wpAny_bind (wpAny_isInstance (T := "int") (b := false) (typeIs_int _ _ _) PySem.sub_int_bytearray ?_)))
  simp only [Bool.false_eq_true, if_false]
  refine wpAny_pure (wpAny_pure ?_)
  refine wpAny_bind (wpAny_newObj_type ?_)
  have hSf : s₂.heap.objs.size ∉ fp := fun hm => Nat.lt_irrefl _ (hfp _ hm)
  refine wpAny_pure ⟨plainId_quiet F.plain_sum_loop _, codeAny_sum_loopS W val hval hfit s₂.heap.objs.size hSf n 0 _ s₂.toks 0 rfl (Nat.zero_le _)
    (W.frame 0 s₂ _ _ hst (by first | exact Nat.le_refl _ | exact Nat.le_succ _ | omega) fun b _ o e => Heap.get?_push_of_some _ e) (Heap.get?_push_size _ rfl) fun s' t' hm => ?_⟩
  exact hQ s' t' (hm.drop_new (by first | exact Nat.le_refl _ | exact Nat.le_succ _ | omega))
end
end Mine
-- M10
namespace Mine
theorem passing_all (n : Nat) : passing (fun _ => true) n 0 = List.range n := by
  unfold passing; simp
section
variable {w : World} {A : Around} {E : Value → Shared → Prop} {s : Shared} {g : Heap} {L f c P r d : Addr} {items : Array Value} {ep : Nat} {m mg mb : Str → Option Value} {news : List (Addr × Obj)} {p : Program} {loose : List Str} {mean : ExcName → Option Value} {o od : Obj}

theorem tup_is {h : Heap} {T : Addr} {a b : Value} {n : Nat} (e : h.get? T = some (tup2 a b n)) : h.IsTuple T #[a, b] := ⟨_, e, rfl, _, rfl⟩

theorem gen_acc {qual : Str} {sc scope : Scope} {elt : Expr} {xa xb : Str} {pa pb pt psf pos : Pos} {kt : Nat} {Ts : Nat → Addr} {va vb : Nat → Value} {Fp : Nat → Value → Prop} {Q : Value → Shared → Prop}
    (F : Fr g L s.heap m) (N : News g L s.heap news) (T : Top p loose mean mg mb g) (X₀ : (KK w).In g) (C : CodeHd g c P) (hmem : (P, o) ∈ news) (G : GenTab pos o) (hb : AllBare s.gens)
    (h1 : (r, accObj d items ep) ∈ news) (h2 : (d, od) ∈ news)
    (hit : ∀ j, j < items.size → items[j]? = some (.ref (Ts j)) ∧ (Ts j, tup2 (va j) (vb j) 0) ∈ news)
    (hh : A.handled = none) (hself : m "self" = some (.ref r)) (hsk : sc.kind = .function) (hsl : sc.names.lookup ("self" : Str) = some .local)
    (hco : scope.isCoroutine = false) (hclos : closureFor scope (envOf qual sc L f (.ref c)) = pure []) (hcell : ∀ y ∈ scope.names, y.2 ≠ .cell) (h0 : scope.names.lookup (".0" : Str) = some NameKind.local)
    (hxa : scope.names.lookup xa = some .local) (hxb : scope.names.lookup xb = some .local) (hab : xa ≠ xb) (hkind : scope.kind = .function) (hroom : A.depth < recursionLimit)
    (helt : ∀ (c' C : Addr) (A' : Around) E' i (t : Shared) m₂, i < items.size → A'.handled = none → A'.depth ≤ A.depth + 1 → A'.units ≤ A.units + 8 → Fr g C t.heap m₂ → m₂ xa = some (va i) → m₂ xb = some (vb i) →
      wpAny (model P0 w) A' (eval elt (genEnv scope [] C (.ref c') builtinsNs (envOf qual sc L f (.ref c)))) (fun y s₃ => Fp i y ∧ Keeps t s₃) E' t)
    (hQ : ∀ a K s₅ o' news', Fr g L s₅.heap m → News g L s₅.heap news' → SubX P news news' → (P, o') ∈ news' → GenTab pos o' → AllBare s₅.gens → s₅.os = s.os → (∀ q ∈ news', q.1 ≤ K) → L ≤ K →
      Gen P0 w A K a items.size (fun j y => j < items.size ∧ Fp j y) s₅ → Q (.ref a) s₅)
    (hs : ∀ x, genFold (.Name "self" psf) (envOf qual sc L f (.ref c)) x = pure x) :
    wpAny (model P0 w) A (eval (.GeneratorExp elt [⟨.Tuple [.Name xa pa, .Name xb pb] kt pt, .Name "self" psf, [], 0⟩] scope pos) (envOf qual sc L f (.ref c))) Q E s := by
  refine wpAny_GeneratorExp_walksQTD hh hco hclos hcell h0 hxa hxb hab hkind hroom ?_ hs
  refine ld F hself ?_ hsk hsl
  refine acc_iter (X₀.keeps F.keep) (inst_news N h1 h2) ?_
  have F₂ := F.push { cls := .type "list_iterator", data := .fields #[.ref r, .int 0 0] }
  have N₂ := News.push F N { cls := .type "list_iterator", data := .fields #[.ref r, .int 0 0] }
  have hPn := (N₂ _ (.tail _ hmem)).1
  refine ⟨T.nolimit.keeps F₂.keep, code_gen (s := { s with heap := s.heap.push { cls := .type "list_iterator", data := .fields #[.ref r, .int 0 0] } }) rfl (C.keeps F₂.keep) hPn G ?_⟩
  intro c' h₃ tk₃ o' hx₃ hge hP₃ G₃
  obtain ⟨bm, ob, b1, b2, b3, b4, b5, b6⟩ := T.bmain
  obtain ⟨ps, rfl, -⟩ := id G
  have hgP : ∀ b x, g.get? b = some x → b ≠ P := fun b x e q => by
    have := (N _ hmem).2.2
    rw [q] at e
    exact absurd (this.symm.trans e) (by simp)
  have keep₃ : ∀ b x, g.get? b = some x → h₃.get? b = some x := fun b x e => hx₃ b x (hgP b x e) (F₂.keep b x e)
  refine wpAny_builtinsFor (T.g.keeps keep₃) b1 b2 (keep₃ _ _ b3) b4 b5 b6 ?_
  have hI : h₃.get? s.heap.objs.size = some { cls := .type "list_iterator", data := .fields #[.ref r, .int 0 0] } :=
    hx₃ _ _ (Nat.ne_of_gt (Heap.lt_size (N _ hmem).1)) (Heap.get?_push_size _ rfl)
  have hLs : L < s.heap.objs.size := F.ns.lt
  have hgI : ∀ b x, g.get? b = some x → b ≠ s.heap.objs.size := fun b x e => Nat.ne_of_lt (Nat.lt_of_lt_of_le (Heap.lt_size e) (Nat.le_trans F.above (Nat.le_of_lt hLs)))
  have old : ∀ q ∈ news, q.1 ≠ P → h₃.get? q.1 = some q.2 := fun q hq hne => hx₃ _ _ hne (Heap.get?_push_of_some _ (N q hq).1)
  have hrP : r ≠ P := fun q => by
    have a := (N _ h1).1; have b := (N _ hmem).1
    rw [q, b] at a; cases a
  have hTP : ∀ j, j < items.size → Ts j ≠ P := fun j hj q => by
    have a := (N _ (hit j hj).2).1; have b := (N _ hmem).1
    dsimp only at a b
    rw [q, b] at a; cases a
  have hTI : ∀ j, j < items.size → Ts j ≠ s.heap.objs.size := fun j hj => Nat.ne_of_lt (Heap.lt_size (N _ (hit j hj).2).1)
  have hrI : r ≠ s.heap.objs.size := Nat.ne_of_lt (Heap.lt_size (N _ h1).1)
  have hlim₃ : h₃.NoLimit := T.nolimit.keeps keep₃
  have hclt : cStatics < g.objs.size := let ⟨_, hn, _⟩ := T.nolimit; hn.lt
  have hIsz : s.heap.objs.size < h₃.objs.size := Heap.lt_size hI
  refine ⟨s.heap.objs.size, _, [s.heap.objs.size], items.size, _, _, _, fun _ => true, Fp, rfl,
    fun A' hA' => (walks_acc hA' s.heap.objs.size r d ep hrI items Ts (fun j => #[va j, vb j]) (fun j hj => (hit j hj).1) hTI).bound, ?_, ?_, ?_, hlim₃, ?_, ?_, ?_⟩
  · rintro i vals ⟨-, rfl⟩; exact ⟨_, _, rfl⟩
  · exact ⟨⟨_, hI, rfl, rfl⟩, old _ h1 hrP, fun k hk => tup_is (old _ (hit k hk).2 (hTP k hk))⟩
  · intro b hb
    rcases List.mem_cons.mp hb with rfl | hb
    · exact hIsz
    · rcases List.mem_cons.mp hb with rfl | hb
      · exact Heap.lt_size (old _ h1 hrP)
      · obtain ⟨k, hk, rfl⟩ := List.mem_map.mp hb
        have hk := List.mem_range.mp hk
        exact Heap.lt_size (old _ (hit k hk).2 (hTP k hk))
  · intro hm
    rcases List.mem_cons.mp hm with e | e
    · exact absurd e (Nat.ne_of_lt (Nat.lt_of_lt_of_le hclt (Nat.le_trans F.above (Nat.le_of_lt hLs))))
    · cases e
  · intro href hhref
    constructor
    · intro A' E' i va' vb' s₂ m₂ hh' hD' hU' hP hn ha hb hkp
      exact wpAny_pure ⟨rfl, s₂.heap, s₂.toks, rfl, fun _ _ e => e⟩
    · intro A' E' i va' vb' s₂ m₂ hh' hD' hU' hP _ hn ha hb hkp
      obtain ⟨hi, hP⟩ := hP
      have e1 : va' = va i ∧ vb' = vb i := by simpa using congrArg Array.toList hP
      obtain ⟨rfl, rfl⟩ := e1
      refine helt c' h₃.objs.size A' E' i s₂ m₂ hi hh' hD' hU' ⟨hn, fun b x e => ?_, Nat.le_trans F.above (Nat.le_of_lt (Nat.lt_trans hLs hIsz))⟩ ha hb
      exact hkp b (List.mem_range.mpr (Heap.lt_size (keep₃ b x e))) (fun hm => by
        rcases List.mem_cons.mp hm with q | q
        · exact hgI b x e q
        · cases q) x (hhref b x (keep₃ b x e))
  · intro a h₅ tk gs hgb hag hsz₅ hk₅ W hat
    rw [passing_all, List.length_range] at W
    have eF : (fun (j : Nat) (y : Value) => ∃ i, (List.range items.size)[j]? = some i ∧ Fp i y) = fun j y => j < items.size ∧ Fp j y := by
      funext j y
      refine propext ⟨fun ⟨i, hi, hy⟩ => ?_, fun ⟨hj, hy⟩ => ⟨j, by simp [hj], hy⟩⟩
      have hj : j < items.size := by
        have := (List.getElem?_eq_some_iff.mp hi).1; simpa using this
      rw [List.getElem?_range hj] at hi
      cases hi
      exact ⟨hj, hy⟩
    rw [eF] at W
    refine hQ a (s.heap.objs.size - 1) _ o' ((P, o') :: news.filter (fun q => decide (q.1 ≠ P))) ⟨?_, fun b x e => hk₅ b x (keep₃ b x e), F.above⟩ ?_ subX_upd (.head _) G₃ (hb.push hgb) rfl ?_ (Nat.le_sub_one_of_lt hLs) ?_
    · obtain ⟨oL, es, epL, hL, rL⟩ := F.ns
      refine ⟨oL, es, epL, hk₅ _ _ (hx₃ _ _ ?_ (Heap.get?_push_of_some _ hL)), rL⟩
      exact fun q => (N _ hmem).2.1 q.symm
    · intro q hq
      rcases List.mem_cons.mp hq with rfl | hq
      · exact ⟨hk₅ _ _ hP₃, (N _ hmem).2⟩
      · obtain ⟨hq1, hq2⟩ := List.mem_filter.mp hq
        exact ⟨hk₅ _ _ (old q hq1 (of_decide_eq_true hq2)), (N q hq1).2⟩
    · intro q hq
      rcases List.mem_cons.mp hq with rfl | hq
      · exact Nat.le_sub_one_of_lt (Heap.lt_size (N _ hmem).1)
      · exact Nat.le_sub_one_of_lt (Heap.lt_size (N q (List.mem_filter.mp hq).1).1)
    · refine ⟨_, _, _, _, W, hat, (fun i s' st => st.1.typeIs), List.mem_cons_self, ?_, ?_⟩
      · intro b hb
        show b < h₅.objs.size
        rw [hsz₅]
        rcases List.mem_cons.mp hb with rfl | hb
        · exact Nat.lt_succ_self _
        · rcases List.mem_cons.mp hb with rfl | hb
          · exact Nat.lt_succ_of_lt hag
          · exact Nat.lt_succ_of_lt (Nat.lt_trans (List.mem_range.mp hb) hag)
      · have h0s : 0 < s.heap.objs.size := Nat.lt_of_le_of_lt (Nat.zero_le _) hLs
        intro b hb
        rcases List.mem_cons.mp hb with rfl | hb
        · exact Nat.lt_of_lt_of_le (Nat.sub_lt h0s Nat.one_pos) (Nat.le_of_lt hIsz)
        · rcases List.mem_cons.mp hb with rfl | hb
          · exact Nat.sub_lt h0s Nat.one_pos
          · cases hb
end
end Mine
-- M11
namespace Mine
theorem fill11 : PySem.Challenge.rw_wr0007_01 = PySem.Challenge.rw_wr0007_01 ∧ hd.heap_39 = hd.heap_39 := by
  w_top off
  k_fill
  exact ⟨rfl, rfl⟩
local macro_rules | `(tactic| k_room) => `(tactic| ktr_room)
local macro_rules | `(tactic| k_units) => `(tactic| ktr_units)
section
variable {w : World} {A₀ A : Around} {base h₀ : Heap} {outer : List Env} {env : Env} {L : Addr} {m mg mb : Str → Option Value} {news : List (Addr × Obj)} {p : Program} {loose : List Str} {mean : ExcName → Option Value}
  {E : Value → Shared → Prop} {R : Result → Shared → Prop} {s : Shared} {r d : Addr} {items : Array Value} {ep : Nat} {t t' : Tok}

/-- the letter of a row's mark -/
def letter (k : Nat) : Str := ⟨#[97 + k]⟩
/-- each item is a pair of a blank and its letter -/
def ItemsIn (news : List (Addr × Obj)) (items : Array Value) : Prop := ∃ (Ts : Nat → Addr) (t1 t2 : Nat → Tok), ∀ j, j < items.size → items[j]? = some (.ref (Ts j)) ∧ (Ts j, tup2 (.str " " (t1 j)) (.str (letter j) (t2 j)) 0) ∈ news

theorem fr_two {g h : Heap} {C : Addr} {m : Str → Option Value} {x y : Str} {a b : Value} (F : Fr g C h m) (hx : m x = some a) (hy : m y = some b) :
    Fr g C h (fun z => if z = x then some a else if z = y then some b else m z) := by
  have e : (fun z => if z = x then some a else if z = y then some b else m z) = m := by
    funext z
    by_cases h1 : z = x
    · subst h1; simp [hx]
    · by_cases h2 : z = y
      · subst h2; simp [h1, hy]
      · simp [h1, h2]
  rw [e]; exact F
theorem gen_tick {K a : Addr} {n tk : Nat} {Fp : Nat → Value → Prop} (X : Gen P0 w A K a n Fp s) (h : s.toks ≤ tk) : Gen P0 w A K a n Fp { s with toks := tk } := by
  obtain ⟨fp, wr, g, St, W, hst, hT, ha, hfp, hwr⟩ := X
  exact ⟨fp, wr, g, St, W, W.frame 0 s s.heap tk hst h (fun _ _ _ e => e), hT, ha, hfp, hwr⟩
theorem sum_start_rows {K a : Addr} {n : Nat} {Fp : Nat → Value → Prop} {t0 : Tok} {Q : Value → Shared → Prop} (Fh : Fr h₀ L s.heap m) (G : AllBare s.gens) (X : Gen P0 w A K a n Fp s) (hLK : L ≤ K) (val : Nat → Int) (hval : ∀ j v, Fp j v → ∃ t, v = .int (val j) t)
    (hfit : ∀ j, j < n → InLong (val j) ∧ InLong (preSum val (j + 1)))
    (hQ : ∀ s' t', Fr h₀ L s'.heap m → AllBare s'.gens → s'.os = s.os → (∀ b o, b ≤ K → s.heap.get? b = some o → s'.heap.get? b = some o) → Q (.int (preSum val n) t') s') : wpAny (model P0 w) A (call (.builtin "sum") [.ref a, .int 0 t0]) Q E s := by
  obtain ⟨fp, wr, g, St, W, hst, _, _, hfp, hwr⟩ := X
  have W := W.in4_1
  exact call_sum_start (W.self 0 _ _ _ hst ⟨a, _, _, _, _, _, _, val, rfl, W, hst, hfp, hval, hfit, fun s' t' hm => hQ s' t' (Fh.moved hm fun b hb => Nat.lt_of_le_of_lt hLK (hwr b hb)) (G.movedS hm) hm.os fun b o hb e => hm.heap b o (fun hmem => Nat.lt_irrefl _ (Nat.lt_of_lt_of_le (hwr b hmem) hb)) e⟩)
theorem news_below {h h' : Heap} {K : Addr} (N : News h₀ L h news) (hK : ∀ q ∈ news, q.1 ≤ K) (k : ∀ b o, b ≤ K → h.get? b = some o → h'.get? b = some o) : News h₀ L h' news :=
  fun q hq => ⟨k _ _ (hK q hq) (N q hq).1, (N q hq).2⟩
theorem preSum_two (n : Nat) : preSum (fun _ => 2) n = 2 * (n : Int) := by
  induction n with
  | zero => rfl
  | succ n ih => unfold preSum; rw [ih]; omega
abbrev posLen : Pos := { line := 31, col := 19, endLine := 31, endCol := 63 }
theorem hd75 {P : Params} : codeHdIn (hd.heap_39 P) 74 70 = true := by kernel_rfl

set_option maxHeartbeats 2000000 in
theorem c_len {o70 : Obj} (B : Below A₀ base outer h₀) (F : Fr h₀ L s.heap m) (X₀ : (hd.heap_39 w.params).In h₀) (N : News h₀ L s.heap news) (T : Top p loose mean mg mb h₀) (hA : A.frames = some (env :: outer)) (hf : env.frame = some L) (hke : env.scope.kind = .function)
    (hh : A.handled = none) (hb : AllBare s.gens) (hD : A.depth + 40 < recursionLimit) (hU : A.units + 40 < cLine) (hsz : items.size < 1000) (h1 : (r, accObj d items ep) ∈ news) (h2 : (d, accDict w.params t t') ∈ news)
    (hit : ItemsIn news items) (h3 : (70, o70) ∈ news) (G : GenTab posLen o70)
    (h : ∀ s' news' t o', Fr h₀ L s'.heap m → News h₀ L s'.heap news' → SubX 70 news news' → (70, o') ∈ news' → GenTab posLen o' → AllBare s'.gens → s'.os = s.os → R (.ok (.ret (.int (2 * (items.size : Int)) t))) s') :
    codeAny (model P0 w) A (.call (.ref 75) ⟨[.ref r], []⟩) R s := by
  obtain ⟨hnd, dp, fr, gd, un⟩ := A
  dsimp only at hA hD hU hh
  subst hA
  subst hh
  refine' code_def (K := hd.heap_39 w.params) (prog := P0) (binds := [("self", .ref r)]) B F X₀ N T rfl hf hke ?k6 ?k7 ?k8 ?k9 ?kB ?_ ?c1 ?c2 ?c3 ?c4
  case k6 => k_is
  case k7 => k_is
  case k8 => dsimp only; omega
  case k9 => exact BindsTo.of_eq rfl
  case kB => exact locs rfl
  case c4 => decide
  case c2 => exact rfl
  case c3 => exact rfl
  case c1 => exact rfl
  intro g L' h₁ FG F₁ N₁ B₁ X₁ T₁
  k_steps
  obtain ⟨Ts, t1, t2, hit'⟩ := hit
  refine gen_acc (Ts := Ts) (va := fun j => .str " " (t1 j)) (vb := fun j => .str (letter j) (t2 j)) (Fp := fun _ y => ∃ t, y = .int 2 t) F₁ N₁ T₁ X₁ (codeHd_of_K X₁ hd75) h3 G hb h1 h2 hit' rfl rfl rfl rfl rfl rfl (by decide) rfl rfl rfl (by decide) rfl (by ktr_room) ?_ ?_ (fun _ => rfl)
  · intro c' C A' E' i t m₂ hi hA' hD' hU' Ft ha hb
    refine wpAny_BinOp ?_
    refine Call_ ?_
    refine wpAny_Name (ks_loadName_global rfl rfl (loadGlobal_builtin (mg := mg) (mb := mb) (T₁.g.keeps Ft.keep) (mg_none_of X₁ T₁.g (by k_is)) (T₁.b.keeps Ft.keep) ((T₁.builtins _ (by decide +kernel)).trans (by boot_by_name)) ?_)) (by decide)
    refine PyProof.Rows.callWith_builtin1 ?_
    refine Calls.spliced_cons (wpAny_Name (wpAny_loadName_local rfl rfl Ft.ns ha ?_) (by decide))
    refine Calls.spliced_nil ?_
    refine len_str (by decide) ?_
    refine Call_ ?_
    refine wpAny_Name (ks_loadName_global rfl rfl (loadGlobal_builtin (mg := mg) (mb := mb) (T₁.g.keeps Ft.keep) (mg_none_of X₁ T₁.g (by k_is)) (T₁.b.keeps Ft.keep) ((T₁.builtins _ (by decide +kernel)).trans (by boot_by_name)) ?_)) (by decide)
    refine PyProof.Rows.callWith_builtin1 ?_
    refine Calls.spliced_cons (wpAny_Name (wpAny_loadName_local rfl rfl Ft.ns hb ?_) (by decide))
    refine Calls.spliced_nil ?_
    refine len_str (by show ¬ ((1 : Nat) : Int) ≥ 2 ^ 63; decide) ?_
    refine PyProof.Rows.add_int ?_
    exact ⟨⟨_, rfl⟩, _, _, rfl, fun _ _ e => e⟩
  · intro a K s₅ o' news' F₅ N₅ S₅ h3' G' hb₅ hos hK hLK Gn
    k_steps
    have hrd : r ≠ 70 ∧ d ≠ 70 := by
      constructor
      · intro q; have a := (N₁ _ h1).1; have b := (N₁ _ h3).1; dsimp only at a b; rw [q, b] at a; obtain ⟨ps, rfl, -⟩ := G; cases a
      · intro q; have a := (N₁ _ h2).1; have b := (N₁ _ h3).1; dsimp only at a b; rw [q, b] at a; obtain ⟨ps, rfl, -⟩ := G; cases a
    refine acc_size (X₁.keeps F₅.keep) (inst_news N₅ (S₅ _ h1 hrd.1) (S₅ _ h2 hrd.2)) ?_
    k_steps
    refine sum_start_rows F₅ hb₅ (gen_tick Gn (Nat.le_succ _)) hLK (fun _ => 2) (fun j v hv => hv.2) ?_ ?_
    · intro j hj
      rw [preSum_two]
      unfold InLong
      omega
    · intro s₆ t₆ F₆ hb₆ hos₆ k₆
      have N₆ := news_below N₅ hK k₆
      rw [preSum_two]
      exact leaveK_ F₆ N₆ fun F' N' => h _ _ _ _ F' N' S₅ h3' G' hb₆ (hos₆.trans hos)
end
end Mine
-- M12
namespace Mine
theorem fill12 : PySem.Challenge.rw_wr0007_01 = PySem.Challenge.rw_wr0007_01 ∧ hd.heap_39 = hd.heap_39 := by
  w_top off
  k_fill
  exact ⟨rfl, rfl⟩
local macro_rules | `(tactic| k_room) => `(tactic| ktr_room)
local macro_rules | `(tactic| k_units) => `(tactic| ktr_units)
def pairText (j : Nat) : Str := ⟨#[32, 97 + j]⟩
theorem pair_is (j : Nat) : Txt.join ("" : Str) [(" " : Str), letter j] = pairText j := by rfl
theorem pair_ok (j : Nat) : JoinOk ("" : Str) [(" " : Str), letter j] = true := by rfl
def rowText (n : Nat) : Str := Txt.join ("" : Str) ((List.range n).map pairText)
theorem row_ok (n : Nat) (h : n < 1000) : JoinOk ("" : Str) ((List.range n).map pairText) = true := by
  have e : ∀ (l : List Nat) (k : Nat), (l.map pairText).foldl (fun acc (x : Str) => acc + x.length + ("" : Str).length) k = k + 2 * l.length := by
    intro l
    induction l with
    | nil => intro k; rfl
    | cons a l ih => intro k; rw [List.map_cons, List.foldl_cons, ih, List.length_cons]; show k + 2 + 0 + 2 * l.length = _; omega
  unfold JoinOk
  rw [List.foldl_toArray, e]
  simp only [List.length_range, Nat.zero_add]
  unfold Builtin.Str.tooLong
  have := sizeLine_eq
  simp
  omega
theorem join_tuple {w : World} {A : Around} {E : Value → Shared → Prop} {s : Shared} {x : Str} {t : Tok} {Q : Value → Shared → Prop} {D : Addr} {l : List (Str × Tok)} {texts : List Str} (hl : s.heap.IsTuple D (strValues l).toArray) (ht : l.map (·.1) = texts) (hok : JoinOk x texts = true)
    (hq : ∀ t' k, Q (.str (Txt.join x texts) t') { s with toks := k }) : wpAny (model P0 w) A (call (.builtin "str.join") [.str x t, .ref D]) Q E s := by
  subst ht
  unfold JoinOk at hok
  rw [Bool.not_eq_true'] at hok
  obtain ⟨o, h1, h2, n, h3⟩ := hl
  exact call_meets F.slot_str_join (typeIs_str _ _ _) F.entry_str_join (F.args_str_join_2 _ _) (meets_str_join_tuple x t D l hok) ⟨⟨o, n, h1, h2, h3⟩, post_join l ⟨joinFit_length hok, hq⟩⟩
section
variable {w : World} {A₀ A : Around} {base h₀ : Heap} {outer : List Env} {env : Env} {L : Addr} {m mg mb : Str → Option Value} {news : List (Addr × Obj)} {p : Program} {loose : List Str} {mean : ExcName → Option Value}
  {E : Value → Shared → Prop} {R : Result → Shared → Prop} {s : Shared} {r d : Addr} {items : Array Value} {ep : Nat} {t t' : Tok}
theorem hd81 {P : Params} : codeHdIn (hd.heap_39 P) 81 77 = true := by kernel_rfl
abbrev posStr : Pos := { line := 34, col := 32, endLine := 34, endCol := 85 }
set_option maxHeartbeats 2000000 in
theorem c_str {o77 od : Obj} (B : Below A₀ base outer h₀) (F : Fr h₀ L s.heap m) (X₀ : (hd.heap_39 w.params).In h₀) (N : News h₀ L s.heap news) (T : Top p loose mean mg mb h₀) (hA : A.frames = some (env :: outer)) (hf : env.frame = some L) (hke : env.scope.kind = .function)
    (hh : A.handled = none) (hb : AllBare s.gens) (hD : A.depth + 40 < recursionLimit) (hU : A.units + 40 < cLine) (hsz : items.size < 1000) (h1 : (r, accObj d items ep) ∈ news) (h2 : (d, od) ∈ news)
    (hit : ItemsIn news items) (h3 : (77, o77) ∈ news) (G : GenTab posStr o77)
    (h : ∀ s' news' t o', Fr h₀ L s'.heap m → News h₀ L s'.heap news' → SubX 77 news news' → (77, o') ∈ news' → GenTab posStr o' → AllBare s'.gens → s'.os = s.os → R (.ok (.ret (.str (rowText items.size) t))) s') :
    codeAny (model P0 w) A (.call (.ref 82) ⟨[.ref r], []⟩) R s := by
  obtain ⟨hnd, dp, fr, gd, un⟩ := A
  dsimp only at hA hD hU hh
  subst hA
  subst hh
  refine' code_def (K := hd.heap_39 w.params) (prog := P0) (binds := [("self", .ref r)]) B F X₀ N T rfl hf hke ?k6 ?k7 ?k8 ?k9 ?kB ?_ ?c1 ?c2 ?c3 ?c4
  case k6 => k_is
  case k7 => k_is
  case k8 => dsimp only; omega
  case k9 => exact BindsTo.of_eq rfl
  case kB => exact locs rfl
  case c4 => decide
  case c2 => exact rfl
  case c3 => exact rfl
  case c1 => exact rfl
  intro g L' h₁ FG F₁ N₁ B₁ X₁ T₁
  obtain ⟨Ts, t1, t2, hit'⟩ := hit
  k_steps
  refine gen_acc (Ts := Ts) (va := fun j => .str " " (t1 j)) (vb := fun j => .str (letter j) (t2 j)) (Fp := fun j y => ∃ t, y = .str (pairText j) t) F₁ N₁ T₁ X₁ (codeHd_of_K X₁ hd81) h3 G hb h1 h2 hit' rfl rfl rfl rfl rfl rfl (by decide) rfl rfl rfl (by decide) rfl (by ktr_room) ?_ ?_ (fun _ => rfl)
  · intro c' C A' E' i t m₂ hi hA' hD' hU' Ft ha hb
    refine MethodCall_ ?_
    refine wpAny_Name (ks_loadName_global rfl rfl (loadGlobal_global (mg := mg) (T₁.g.keeps Ft.keep) (mg_of X₁ T₁.g (by k_is)) ?_)) (by decide)
    refine GM.join ?_
    refine PyProof.Rows.callWith_method1 ?_
    refine Calls.spliced_cons (Tuple_ (k := 0) ?_)
    refine Calls.spliced_cons (wpAny_Name (wpAny_loadName_local rfl rfl Ft.ns ha ?_) (by decide))
    refine Calls.spliced_cons (wpAny_Name (wpAny_loadName_local rfl rfl Ft.ns hb ?_) (by decide))
    refine Calls.spliced_nil ?_
    refine wpAny_newObj_type ?_ (by size_fits)
    refine Calls.spliced_nil ?_
    refine join_tuple (l := [((" " : Str), t1 i), (letter i, t2 i)]) (texts := [(" " : Str), letter i]) ⟨_, Heap.get?_push_size _ rfl, rfl, _, rfl⟩ rfl (pair_ok i) ?_
    intro t' k
    exact ⟨⟨_, rfl⟩, _, _, rfl, fun b o e => Heap.get?_push_of_some _ e⟩
  · intro a K s₅ o' news' F₅ N₅ S₅ h3' G' hb₅ hos hK hLK Gn
    k_steps
    refine join_rowsK F₅ hb₅ Gn hLK pairText (fun j v hv => hv.2) (row_ok _ hsz) ?_ ?_
    · intro s₆ t₆ F₆ hb₆ hos₆ k₆
      have N₆ := news_below N₅ hK k₆
      exact leaveK_ F₆ N₆ fun F' N' => h _ _ _ _ F' N' S₅ h3' G' hb₆ (hos₆.trans hos)
    · have := sizeLine_eq; omega
end
end Mine
-- M13
namespace Mine
theorem fill13 : PySem.Challenge.rw_wr0007_01 = PySem.Challenge.rw_wr0007_01 ∧ hd.heap_39 = hd.heap_39 := by
  w_top off
  k_fill
  exact ⟨rfl, rfl⟩
local macro_rules | `(tactic| k_room) => `(tactic| ktr_room)
local macro_rules | `(tactic| k_units) => `(tactic| ktr_units)
section
variable {w : World} {A₀ A : Around} {base h₀ : Heap} {outer : List Env} {env : Env} {L : Addr} {m mg mb : Str → Option Value} {news : List (Addr × Obj)} {p : Program} {loose : List Str} {mean : ExcName → Option Value}
  {E : Value → Shared → Prop} {R : Result → Shared → Prop} {s : Shared} {r d : Addr} {items : Array Value} {ep : Nat} {t t' : Tok}

theorem truthy_len {K : Frag} {x C f : Addr} {ox : Obj} {odx : Option Obj} {Q : Bool → Shared → Prop} (X : K.In s.heap) (I : PySem.W.InstAt s.heap x ox C odx) (hb : findIn K (.ref C) "__bool__" = some none) (hs : findIn K (.ref C) "__len__" = some (some (.ref f))) (hf : isFn K (.ref f) = true)
    (h : wpAny (model P0 w) A.in1 (call (.ref f) [.ref x]) (fun r s' => ∃ n u, r = .int n u ∧ 0 ≤ n ∧ n < 2 ^ 63 ∧ ∀ tk, Q (n != 0) { s' with toks := tk }) E s) : wpAny (model P0 w) A (truthy (.ref x)) Q E s := by
  unfold truthy
  refine wpAny_bind (m := callSpecial? (.ref x) (Str.ofString "__bool__")) (wpAny_bind (wpAny_bind (I.type.here ((looks_findIn X hb).here (wpAny_pure ?_)))))
  refine wpAny_bind (wpAny_bind (I.type.here ((looks_findIn X hs).here ?_)))
  refine wpAny_bind (wpAny_runValue (codeAny_builtin entry_len ?_))
  rw [Around.under_plainId plain_len _]
  unfold Builtin.«len»
  refine wpAny_bind (m := oneArg "len" _) (wpAny_pure ?_)
  refine wpAny_bind (m := callSpecial? (.ref x) (Str.ofString "__len__")) (special_fn X I hs (beq_iff_eq.mp hf) (wpAny_mono h (fun r s' hr => ?_) fun _ _ y => y))
  obtain ⟨n, u, rfl, h0, h1, hq⟩ := hr
  refine wpAny_bind (wpAny_holding (wpAny_pure ?_))
  refine wpAny_bind (wpAny_letGo ?_)
  show wpAny _ _ (if n < 0 then _ else _) _ _ _
  rw [if_neg (by omega)]
  show wpAny _ _ (if n ≥ 2 ^ 63 then _ else _) _ _ _
  rw [if_neg (by omega)]
  exact wpAny_bind (wpAny_mkInt (wpAny_pure (wpAny_pure (hq _))))

theorem len_is {P : Params} : findIn (hd.heap_39 P) (.ref 108) "__bool__" = some none ∧ findIn (hd.heap_39 P) (.ref 108) "__len__" = some (some (.ref 75)) ∧ isFn (hd.heap_39 P) (.ref 75) = true := ⟨by kernel_rfl, by kernel_rfl, by kernel_rfl⟩
theorem str_is {P : Params} : findIn (hd.heap_39 P) (.ref 108) "__str__" = some (some (.ref 82)) ∧ isFn (hd.heap_39 P) (.ref 82) = true := ⟨by kernel_rfl, by kernel_rfl⟩

/-- the two code tables, whatever they hold -/
def Tabs (news : List (Addr × Obj)) : Prop := (∃ o, (70, o) ∈ news ∧ GenTab posLen o) ∧ ∃ o, (77, o) ∈ news ∧ GenTab posStr o
/-- all that stood stands, but for the two tables -/
abbrev SubT (news news' : List (Addr × Obj)) : Prop := ∀ q ∈ news, q.1 ≠ 70 → q.1 ≠ 77 → q ∈ news'

theorem not_tab {pos : Pos} {h : Heap} {a P : Addr} {o oP : Obj} (N : News h₀ L h news) (h1 : (a, o) ∈ news) (h2 : (P, oP) ∈ news) (G : GenTab pos oP) (hc : o.cls ≠ .none) : a ≠ P := by
  intro q
  have e1 := (N _ h1).1
  have e2 := (N _ h2).1
  dsimp only at e1 e2
  rw [q, e2] at e1
  obtain ⟨ps, rfl, -⟩ := G
  cases e1
  exact hc rfl

theorem acc_not {h : Heap} (N : News h₀ L h news) (T : Tabs news) {a : Addr} {o : Obj} (h1 : (a, o) ∈ news) (hc : o.cls ≠ .none) : a ≠ 70 ∧ a ≠ 77 := by
  obtain ⟨⟨o1, m1, g1⟩, ⟨o2, m2, g2⟩⟩ := T
  exact ⟨not_tab N h1 m1 g1 hc, not_tab N h1 m2 g2 hc⟩

theorem ItemsIn.sub {h : Heap} (N : News h₀ L h news) (T : Tabs news) {news' : List (Addr × Obj)} (S : SubT news news') (hit : ItemsIn news items) : ItemsIn news' items := by
  obtain ⟨Ts, t1, t2, k⟩ := hit
  refine ⟨Ts, t1, t2, fun j hj => ⟨(k j hj).1, S _ (k j hj).2 ?_ ?_⟩⟩
  · exact (acc_not N T (k j hj).2 (by simp)).1
  · exact (acc_not N T (k j hj).2 (by simp)).2

theorem row_space (n : Nat) (h : 0 < n) (h2 : n < 26) : Txt.isspace (rowText n) = false := by
  have : ∀ n, n < 26 → 0 < n → Txt.isspace (rowText n) = false := by decide +kernel
  exact this n h2 h

set_option maxHeartbeats 2000000 in
theorem c_ow (B : Below A₀ base outer h₀) (F : Fr h₀ L s.heap m) (X₀ : (hd.heap_39 w.params).In h₀) (N : News h₀ L s.heap news) (T : Top p loose mean mg mb h₀) (hA : A.frames = some (env :: outer)) (hf : env.frame = some L) (hke : env.scope.kind = .function)
    (hh : A.handled = none) (hb : AllBare s.gens) (hD : A.depth + 60 < recursionLimit) (hU : A.units + 60 < cLine) (hsz : items.size < 26) (h1 : (r, accObj d items ep) ∈ news) (h2 : (d, accDict w.params t t') ∈ news)
    (hit : ItemsIn news items) (hT : Tabs news)
    (h : ∀ s' news', Fr h₀ L s'.heap m → News h₀ L s'.heap news' → SubT news news' → Tabs news' → AllBare s'.gens → s'.os = s.os → R (.ok (.ret (.bool (items.size == 0)))) s') :
    codeAny (model P0 w) A (.call (.ref 97) ⟨[.ref r], []⟩) R s := by
  obtain ⟨hnd, dp, fr, gd, un⟩ := A
  dsimp only at hA hD hU hh
  subst hA
  subst hh
  refine' code_def (K := hd.heap_39 w.params) (prog := P0) (binds := [("self", .ref r)]) B F X₀ N T rfl hf hke ?k6 ?k7 ?k8 ?k9 ?kB ?_ ?c1 ?c2 ?c3 ?c4
  case k6 => k_is
  case k7 => k_is
  case k8 => dsimp only; omega
  case k9 => exact BindsTo.of_eq rfl
  case kB => exact locs rfl
  case c4 => decide
  case c2 => exact rfl
  case c3 => exact rfl
  case c1 => exact rfl
  intro g L' h₁ FG F₁ N₁ B₁ X₁ T₁
  k_steps
  refine acc_size (X₁.keeps F₁.keep) (inst_news N₁ h1 h2) ?_
  k_steps
  obtain ⟨⟨o70, m70, g70⟩, ⟨o77, m77, g77⟩⟩ := id hT
  refine truthy_len (X₁.keeps F₁.keep) (inst_news N₁ h1 h2) len_is.1 len_is.2.1 len_is.2.2 ?_
  refine wpAny_call ?_
  refine c_len B₁ F₁ X₁ N₁ T₁ rfl rfl rfl rfl hb (by ktr_room) (by ktr_units) (by omega) h1 h2 hit m70 g70 ?_
  intro s₂ news₂ t₂ o₂ F₂ N₂ S₂ m70₂ g70₂ hb₂ hos₂
  refine ⟨_, _, rfl, by omega, by omega, fun tk => ?_⟩
  have e7 : (77 : Addr) ≠ 70 := by decide
  have m77₂ := S₂ _ m77 e7
  have T₂ : Tabs news₂ := ⟨⟨_, m70₂, g70₂⟩, ⟨_, m77₂, g77⟩⟩
  rcases Nat.eq_zero_or_pos items.size with hz | hz
  · have e0 : (2 * (items.size : Int) != 0) = false := by rw [hz]; rfl
    rw [e0]
    k_steps
    have := h { s₂ with toks := tk } news₂ (by assumption) (by assumption) (fun q hq n1 n2 => S₂ q hq n1) T₂ hb₂ hos₂
    rw [hz] at this
    exact this
  · have e0 : (2 * (items.size : Int) != 0) = true := by rw [bne_iff_ne]; omega
    rw [e0]
    k_steps
    have n1 := acc_not N₁ hT h1 (by simp)
    have n2 := acc_not N₁ hT h2 (by simp)
    have S₂' : SubT news news₂ := fun q hq a _ => S₂ q hq a
    have h1₂ := S₂ _ h1 n1.1
    have h2₂ := S₂ _ h2 n2.1
    refine kso_call (by ktr_units) (X₁.keeps F₂.keep) (inst_news N₂ h1₂ h2₂) str_is.1 str_is.2 ?_
    refine wpAny_call ?_
    refine c_str (s := { s₂ with toks := tk }) B₁ F₂ X₁ N₂ T₁ rfl rfl rfl rfl hb₂ (by ktr_room) (by ktr_units) (by omega) h1₂ h2₂ (hit.sub N₁ hT S₂') m77₂ g77 ?_
    intro s₃ news₃ t₃ o₃ F₃ N₃ S₃ m77₃ g77₃ hb₃ hos₃
    have m70₃ := S₃ _ m70₂ (by show (70 : Nat) ≠ 77; decide)
    show StrBack _ _ _
    unfold StrBack
    dsimp only
    k_steps
    have := h s₃ news₃ (by assumption) (by assumption) (fun q hq a b => S₃ q (S₂' q hq a b) b) ⟨⟨_, m70₃, g70₂⟩, ⟨_, m77₃, g77₃⟩⟩ hb₃ (hos₃.trans hos₂)
    rw [show (items.size == 0) = false by rw [beq_eq_false_iff_ne]; omega] at this
    rw [row_space _ hz hsz]
    exact this
end
end Mine
-- M14
namespace Mine
theorem fill14 : PySem.Challenge.rw_wr0007_01 = PySem.Challenge.rw_wr0007_01 ∧ hd.heap_39 = hd.heap_39 := by
  w_top off
  k_fill
  exact ⟨rfl, rfl⟩
local macro_rules | `(tactic| k_room) => `(tactic| ktr_room)
local macro_rules | `(tactic| k_units) => `(tactic| ktr_units)
section
variable {w : World} {A₀ A : Around} {base h₀ : Heap} {outer : List Env} {env : Env} {L : Addr} {m mg mb : Str → Option Value} {news : List (Addr × Obj)} {p : Program} {loose : List Str} {mean : ExcName → Option Value}
  {E : Value → Shared → Prop} {R : Result → Shared → Prop} {s : Shared} {r d : Addr} {items : Array Value} {ep : Nat} {t t' : Tok}

/-- a for over anything that a walk serves, any invariant over the whole state -/
theorem for_any {x : Str} {px : Pos} {body : List Stmt} {I : Addr} {fp wr : List Addr} {n : Nat} {Pi : Nat → Value → Prop} {St : Nat → Heap → Prop} {env : Env}
    (W : Walks P0 w A I fp wr n Pi St) (J : Nat → Shared → Prop) (hSt : ∀ i s, J i s → St i s.heap) (hJ : J 0 s)
    (turn : ∀ i s₁ v h tk (E' : Value → Shared → Prop), i < n → J i s₁ → Pi i v → St (i + 1) h → (∀ b o, b ∉ wr → s₁.heap.get? b = some o → h.get? b = some o) →
      wpAny (model P0 w) A (storeName env x v) (fun _ s₂ => wpAny (model P0 w) A (execs body env) (fun f s₃ => Hold (f = .next ∧ J (i + 1) s₃)) E' s₂) E' { s₁ with heap := h, toks := tk })
    (done : ∀ s₁ h tk, J n s₁ → (∀ b o, b ∉ wr → s₁.heap.get? b = some o → h.get? b = some o) → R (.ok .next) { s₁ with heap := h, toks := tk }) :
    codeAny (model P0 w) A (.forLoop (.Name x px) (.ref I) body [] env) R s := by
  refine codeAny_forLoop (fun k s₁ => ∃ i, i + k = n ∧ J i s₁) (fun k s₁ hI => ?_) n ⟨0, by omega, hJ⟩
  obtain ⟨i, hi, hj⟩ := hI
  rcases Nat.eq_zero_or_pos k with hk | hk
  · have hin : i = n := by omega
    subst hin
    refine W.done s₁ _ _ (hSt _ _ hj) fun h tk hk' => ?_
    exact wpAny_execs_nil (done s₁ h tk hj hk')
  · refine W.item i s₁ _ _ (by omega) (hSt _ _ hj) fun v h tk hP hst hk' => ?_
    refine wpAny_assign_Name (wpAny_mono (turn i s₁ v h tk _ (by omega) hj hP hst hk') (fun _ s₂ h₂ => wpAny_mono h₂ (fun f s₃ h₃ => ?_) fun _ _ e => e) fun _ _ e => e)
    obtain ⟨rfl, h₃⟩ := h₃
    exact ⟨k - 1, by omega, i + 1, by omega, h₃⟩

end
end Mine
-- M15
namespace Mine
section
variable {w : World} {h₀ h h' : Heap} {L r x I l : Addr} {m : Str → Option Value} {news news' : List (Addr × Obj)} {o o' ox : Obj} {items : Array Value} {n i : Nat}

theorem upd_news (F : Fr h₀ L h m) (N : News h₀ L h news) (hr : (r, o) ∈ news) (keep : ∀ b y, b ≠ r → h.get? b = some y → h'.get? b = some y) (ho : h'.get? r = some o') :
    Fr h₀ L h' m ∧ News h₀ L h' ((r, o') :: news.filter (fun p => decide (p.1 ≠ r))) := by
  have D := N _ hr
  obtain ⟨oL, es, ep, hL, rr⟩ := F.ns
  refine ⟨⟨⟨oL, es, ep, keep _ _ (Ne.symm D.2.1) hL, rr⟩, fun b y q => keep b y (fun z => ?_) (F.keep b y q), F.above⟩, fun p hp => ?_⟩
  · subst z
    have := D.2.2; rw [q] at this; cases this
  · rcases List.mem_cons.mp hp with rfl | q
    · exact ⟨ho, D.2⟩
    · have q' := List.mem_filter.mp q
      have P := N p q'.1
      exact ⟨keep _ _ (of_decide_eq_true q'.2) P.1, P.2⟩

/-- names that are known -/
theorem fr_known (F : Fr h₀ L h m) (ks : List (Str × Value)) (hk : ∀ q ∈ ks, m q.1 = some q.2) : Fr h₀ L h (fun z => match ks.lookup z with | some v => some v | none => m z) := by
  have e : (fun z => match ks.lookup z with | some v => some v | none => m z) = m := by
    funext z
    cases hz : ks.lookup z with
    | none => rfl
    | some v => exact (hk _ (mem_of_lookup hz)).symm
  rw [e]; exact F

theorem ne_of_cls {a b : Addr} {oa ob : Obj} (N : News h₀ L h news) (ha : (a, oa) ∈ news) (hb : (b, ob) ∈ news) (hc : oa.cls ≠ ob.cls) : a ≠ b := by
  intro q
  have e1 := (N _ ha).1
  have e2 := (N _ hb).1
  dsimp only at e1 e2
  rw [q, e2] at e1
  cases e1
  exact hc rfl

def IterAt (news : List (Addr × Obj)) (I l : Addr) (i : Nat) : Prop := ∃ oi, (I, oi) ∈ news ∧ oi.cls = .type "list_iterator" ∧ oi.data = .fields #[.ref l, .int i 0]

/-- a row with n marks -/
def RowIn (w : World) (news : List (Addr × Obj)) (r : Addr) (n : Nat) : Prop := ∃ d items ep t t', (r, accObj d items ep) ∈ news ∧ (d, accDict w.params t t') ∈ news ∧ items.size = n ∧ ItemsIn news items

theorem ItemsIn.imp (hx : ∀ a o, (a, o) ∈ news → o.cls = .type "tuple" → (a, o) ∈ news') (hit : ItemsIn news items) : ItemsIn news' items := by
  obtain ⟨Ts, t1, t2, k⟩ := hit
  exact ⟨Ts, t1, t2, fun j hj => ⟨(k j hj).1, hx _ _ (k j hj).2 rfl⟩⟩
theorem RowIn.imp (hx : ∀ a o, (a, o) ∈ news → a = r ∨ o.cls = .type "dict" ∨ o.cls = .type "tuple" → (a, o) ∈ news') (R : RowIn w news r n) : RowIn w news' r n := by
  obtain ⟨d, items, ep, t, t', h1, h2, h3, h4⟩ := R
  exact ⟨d, items, ep, t, t', hx _ _ h1 (.inl rfl), hx _ _ h2 (.inr (.inl rfl)), h3, h4.imp fun a o e c => hx _ _ e (.inr (.inr c))⟩
theorem RowIn.sub (S : Sub news news') (R : RowIn w news r n) : RowIn w news' r n := R.imp fun _ _ e _ => S _ e
theorem RowIn.subX (N : News h₀ L h news) (hx : (x, ox) ∈ news) (S : SubX x news news') (hr : r ≠ x) (h1 : ox.cls ≠ .type "dict") (h2 : ox.cls ≠ .type "tuple") (R : RowIn w news r n) : RowIn w news' r n :=
  R.imp fun a o e c => S _ e (by
    rcases c with rfl | c | c
    · exact hr
    · exact ne_of_cls N e hx (by rw [c]; exact Ne.symm h1)
    · exact ne_of_cls N e hx (by rw [c]; exact Ne.symm h2))
theorem RowIn.mem (R : RowIn w news r n) : ∃ d items ep, (r, accObj d items ep) ∈ news := by
  obtain ⟨d, items, ep, t, t', h1, _⟩ := R; exact ⟨d, items, ep, h1⟩

/-- push: the new items -/
theorem ItemsIn.push {q : Addr} {t1 t2 : Tok} (hit : ItemsIn news items) (S : ∀ a o, (a, o) ∈ news → o.cls = .type "tuple" → (a, o) ∈ news') (hq : (q, tup2 (.str " " t1) (.str (letter items.size) t2) 0) ∈ news') : ItemsIn news' (items.push (.ref q)) := by
  obtain ⟨Ts, u1, u2, k⟩ := hit
  refine ⟨fun j => if j = items.size then q else Ts j, fun j => if j = items.size then t1 else u1 j, fun j => if j = items.size then t2 else u2 j, fun j hj => ?_⟩
  rw [Array.size_push] at hj
  by_cases e : j = items.size
  · subst e
    simp only [if_true]
    exact ⟨by simp, hq⟩
  · simp only [if_neg e]
    have hj' : j < items.size := by omega
    refine ⟨?_, S _ _ (k j hj').2 rfl⟩
    rw [Array.getElem?_push_lt hj', ← Array.getElem?_eq_getElem hj']
    exact (k j hj').1
theorem ItemsIn.pop {v : Value} (hit : ItemsIn news (items.push v)) : ItemsIn news items := by
  obtain ⟨Ts, u1, u2, k⟩ := hit
  refine ⟨Ts, u1, u2, fun j hj => ?_⟩
  have := k j (by rw [Array.size_push]; omega)
  rw [Array.getElem?_push_lt hj, ← Array.getElem?_eq_getElem hj] at this
  exact this
end
end Mine
-- M16
namespace Mine
theorem fill16 : PySem.Challenge.rw_wr0007_01 = PySem.Challenge.rw_wr0007_01 ∧ hd.heap_39 = hd.heap_39 := by
  w_top off
  k_fill
  exact ⟨rfl, rfl⟩
local macro_rules | `(tactic| k_room) => `(tactic| ktr_room)
local macro_rules | `(tactic| k_units) => `(tactic| ktr_units)
local macro_rules | `(tactic| walk_at "getMethod ref") => `(tactic| ((with_reducible show wpAny _ _ (getMethod (Value.ref _) (Str.ofString "push") _) _ _ _); refine stop_it ?_))
local macro_rules | `(tactic| walk_at "call builtin:list.append") => `(tactic| refine stop_it ?_)
local macro_rules | `(tactic| walk_at "exec For Name Name cons nil") => `(tactic| refine stop_it ?_)
local macro_rules | `(tactic| walk_at "exec For Name Call cons nil") => `(tactic| refine stop_it ?_)
section
variable {w : World} {A₀ A : Around} {base h₀ : Heap} {outer : List Env} {env : Env} {L : Addr} {m mg mb : Str → Option Value} {news : List (Addr × Obj)} {p : Program} {loose : List Str} {mean : ExcName → Option Value}
  {E : Value → Shared → Prop} {R : Result → Shared → Prop} {s : Shared} {r d : Addr} {items : Array Value} {ep : Nat} {t t' : Tok}

/-- the rows made so far -/
def RowsIn (w : World) (news : List (Addr × Obj)) (rs : List Addr) (ws : List Nat) : Prop := rs.length = ws.length ∧ rs.Nodup ∧ ∀ (j : Nat) r n, rs[j]? = some r → ws[j]? = some n → RowIn w news r n

theorem st_N {M : Model} {name : Str} {scope : Scope} {a : Addr} {cd : Value} {x : Str} {v : Value} {Q : Unit → Shared → Prop} (F : Fr h₀ L s.heap m) (N : News h₀ L s.heap news)
    (h : ∀ h', Fr h₀ L h' (fun y => if y = x then some v else m y) → News h₀ L h' news → Q () { s with heap := h', toks := s.toks + 1 })
    (hk : scope.kind = .function := by rfl) (hl : (envOf name scope L a cd).kindOf x = some .local := by rfl) :
    wpAny M A (storeName (envOf name scope L a cd) x v) Q E s :=
  wpAny_storeName_local hl F.ns (fun h' hn hs => h h' (F.set hn hs) (N.set hs))
    (by show (scope.kind == .class || (scope.kind == .module && L != mainGlobals)) = false; rw [hk]; rfl)

theorem drop_news {h h' : Heap} {o : Obj} (F : Fr h₀ L h m) (N : News h₀ L h news) (hr : (r, o) ∈ news) (keep : ∀ b y, b ≠ r → h.get? b = some y → h'.get? b = some y) :
    Fr h₀ L h' m ∧ News h₀ L h' (news.filter (fun p => decide (p.1 ≠ r))) := by
  have D := N _ hr
  obtain ⟨oL, es, ep, hL, rr⟩ := F.ns
  refine ⟨⟨⟨oL, es, ep, keep _ _ (Ne.symm D.2.1) hL, rr⟩, fun b y q => keep b y (fun z => ?_) (F.keep b y q), F.above⟩, fun p hp => ?_⟩
  · subst z
    have := D.2.2; rw [q] at this; cases this
  · have q' := List.mem_filter.mp hp
    have P := N p q'.1
    exact ⟨keep _ _ (of_decide_eq_true q'.2) P.1, P.2⟩
theorem subX_drop : SubX r news (news.filter (fun p => decide (p.1 ≠ r))) := fun _ hp hne => List.mem_filter.mpr ⟨hp, decide_eq_true hne⟩

set_option maxHeartbeats 4000000 in
theorem c_rows (B : Below A₀ base outer h₀) (F : Fr h₀ L s.heap m) (X₀ : (hd.heap_39 w.params).In h₀) (N : News h₀ L s.heap news) (T : Top p loose mean mg mb h₀) (hA : A.frames = some (env :: outer)) (hf : env.frame = some L) (hke : env.scope.kind = .function)
    (hh : A.handled = none) (hD : A.depth + 100 < recursionLimit) (hU : A.units + 100 < cLine) {lw : Addr} {lep : Nat} {vs : List Value} {ws : List Nat} (hlen : vs.length = ws.length) (hvs : ∀ (i : Nat) n, ws[i]? = some n → ∃ u, vs[i]? = some (Value.int (n : Int) u)) (hws : ∀ n ∈ ws, n < 26) (hl4 : ws.length = 4)
    (hl : (lw, listOf vs.toArray lep) ∈ news)
    (h : ∀ h' news' tk lr ep' rs, Fr h₀ L h' m → News h₀ L h' news' → Sub news news' → (lr, listOf (rs.map Value.ref).toArray ep') ∈ news' → RowsIn w news' rs ws → R (.ok (.ret (.ref lr))) { s with heap := h', toks := tk }) :
    codeAny (model P0 w) A (.call (.ref 140) ⟨[.ref lw], []⟩) R s := by
  obtain ⟨hnd, dp, fr, gd, un⟩ := A
  dsimp only at hA hD hU hh
  subst hA
  subst hh
  refine' code_def (K := hd.heap_39 w.params) (prog := P0) (binds := [("wishes", .ref lw)]) B F X₀ N T rfl hf hke ?k6 ?k7 ?k8 ?k9 ?kB ?_ ?c1 ?c2 ?c3 ?c4
  case k6 => k_is
  case k7 => k_is
  case k8 => dsimp only; omega
  case k9 => exact BindsTo.of_eq rfl
  case kB => exact locs rfl
  case c4 => decide
  case c2 => exact rfl
  case c3 => exact rfl
  case c1 => exact rfl
  intro g L' h₁ FG F₁ N₁ B₁ X₁ T₁
  refine wpAny_execs_cons ?_
  k_steps
  rename_i lr hx l₂ h₂ F₂ N₂
  refine wpAny_For ?_
  refine ld F₂ rfl ?_
  have hl₂ := N₂ _ (.tail _ hl)
  refine wpAny_pyIter_list (items := vs.toArray) ⟨_, hl₂.1, rfl, _, rfl⟩ ?_
  have F₃ := F₂.push { cls := .type "list_iterator", data := .fields #[.ref lw, .int 0 0] }
  have N₃ := News.push F₂ N₂ { cls := .type "list_iterator", data := .fields #[.ref lw, .int 0 0] }
  have hlwI : lw ≠ h₂.objs.size := Nat.ne_of_lt (Heap.lt_size hl₂.1)
  have hIl : ∀ q ∈ news, q.1 ≠ h₂.objs.size := fun q hq => Nat.ne_of_lt (Heap.lt_size (N₂ _ (.tail _ hq)).1)
  have hrI : lr ≠ h₂.objs.size := Nat.ne_of_lt (Heap.lt_size (N₂ _ (.head _)).1)
  have hrl : ∀ q ∈ news, q.1 ≠ lr := fun q hq => Nat.ne_of_lt (l₂ q hq)
  refine for_any (Walks.list (prog := P0) (w := w) (by rfl) h₂.objs.size lw hlwI vs.toArray) (fun i s₁ => ∃ h' tk' m' news' rs ep', s₁ = { s with heap := h', toks := tk' } ∧ Fr g L' h' m' ∧ News g L' h' news' ∧ m' "rows" = some (.ref lr) ∧ IterAt news' h₂.objs.size lw i ∧ Sub news news' ∧
    (lr, listOf (rs.map Value.ref).toArray ep') ∈ news' ∧ RowsIn w news' rs (ws.take i)) ?_ ?_ ?_ ?_
  · rintro i s₁ ⟨h', tk', m', news', rs, ep', rfl, F', N', hm', ⟨oi, hi1, hi2, hi3⟩, S', hr', R'⟩
    exact ⟨⟨oi, (N' _ hi1).1, hi2, hi3⟩, ⟨_, (N' _ (S' _ hl)).1, rfl, _, rfl⟩⟩
  · refine ⟨_, _, _, _, [], 0, rfl, F₃, N₃, rfl, ⟨_, .head _, rfl, rfl⟩, fun q hq => .tail _ (.tail _ hq), .tail _ (.head _), ?_⟩
    refine ⟨by simp, List.nodup_nil, fun j r n e => by simp at e⟩
  · rintro i s₁ v h₄ tk₄ E' hin ⟨hO, tkO, mO, newsO, rs, epO, rfl, FO, NO, hmO, ⟨oi, hi1, hi2, hi3⟩, SO, hrO, RO⟩ hv ⟨⟨oj, hj1, hj2, hj3⟩, -⟩ k₄
    obtain ⟨F₄, N₄⟩ := upd_news FO NO hi1 (fun b y hb e => k₄ b y (by simpa using hb) e) hj1
    have S₄ := subX_upd (r := h₂.objs.size) (o' := oj) (news := newsO)
    generalize hn4 : ((h₂.objs.size, oj) :: List.filter (fun p => decide (p.1 ≠ h₂.objs.size)) newsO) = news₄ at N₄ S₄
    have hi4 : (h₂.objs.size, oj) ∈ news₄ := hn4 ▸ .head _
    have hr4 : (lr, listOf (rs.map Value.ref).toArray epO) ∈ news₄ := S₄ _ hrO hrI
    have hws4 : i < ws.length := by simp only [List.size_toArray] at hin; omega
    obtain ⟨u, hu⟩ := hvs i ws[i] (by simp [hws4])
    have hv2 : v = .int (ws[i] : Int) u := by
      have : vs.toArray[i]? = some (.int (ws[i] : Int) u) := by simpa using hu
      rw [this] at hv; exact (Option.some.inj hv).symm
    subst hv2
    have old4 : ∀ (j : Nat) r' n, rs[j]? = some r' → (ws.take i)[j]? = some n → RowIn w news₄ r' n := fun j r' n e1 e2 => by
      have := RO.2.2 j r' n e1 e2
      obtain ⟨_, _, _, hm9⟩ := this.mem
      exact this.subX NO hi1 S₄ (ne_of_cls NO hm9 hi1 (by rw [hi2]; simp)) (by rw [hi2]; simp) (by rw [hi2]; simp)
    have notlr : ∀ a o, (a, o) ∈ news₄ → o.cls ≠ .type "list" → a ≠ lr := fun a o e c => ne_of_cls N₄ e hr4 c
    refine st_N F₄ N₄ fun h₅ F₅ N₅ => ?_
    k_steps
    refine c_make B₁ F₅ X₁ N₅ T₁ rfl rfl rfl (by ktr_room) (by ktr_units) ?_
    intro h₆ news₆ tk₆ r d t t' F₆ N₆ S₆ ld₆ lr₆ h1₆ h2₆
    k_steps
    rename_i h₇ F₇ N₇
    refine wpAny_For ?_
    refine Call_ ?_
    refine wpAny_mono (Q := fun v s₂ => Hold (v = .type "range" ∧ s₂ = { s with heap := h₇, toks := tk₆ + 1 })) (E := E') (by k_steps; exact ⟨rfl, rfl⟩) ?_ (fun _ _ z => z)
    rintro v s₂ ⟨rfl, rfl⟩
    have hwi : ws[i] < 26 := hws _ (List.getElem_mem _)
    have hsm : Builtin.Range.small 0 (ws[i] : Int) 1 = true ∧ Builtin.Range.rangeSize 0 (ws[i] : Int) 1 = (ws[i] : Int) := by
      have : ∀ n : Nat, n < 26 → Builtin.Range.small 0 (n : Int) 1 = true ∧ Builtin.Range.rangeSize 0 (n : Int) 1 = (n : Int) := by decide +kernel
      exact this _ hwi
    refine PyProof.Rows.callWith_type1 ?_
    refine Calls.spliced_cons (ld F₇ rfl ?_)
    refine Calls.spliced_nil ?_
    refine range1_rows F₇ N₇ ?_
    intro h₈ tk₈ t1 u1 v1 hr₈ F₈ N₈ k₈
    refine wpAny_pyIter_range hr₈ hsm.1 ?_
    rw [hsm.2]
    have F₉ := F₈.push { cls := .type "range_iterator", data := .fields #[rawInt 0, rawInt (ws[i] : Int), rawInt 1] }
    have N₉ := News.push F₈ N₈ { cls := .type "range_iterator", data := .fields #[rawInt 0, rawInt (ws[i] : Int), rawInt 1] }
    have hIr : ∀ q ∈ news₆, q.1 ≠ h₈.objs.size := fun q hq => Nat.ne_of_lt (Heap.lt_size (N₈ _ hq).1)
    refine for_any (Walks.range (prog := P0) (w := w) (by rfl) h₈.objs.size 0 1 ws[i]) (fun k s₂ => ∃ h' tk' m' news' items ep', s₂ = { s with heap := h', toks := tk' } ∧ Fr g L' h' m' ∧ News g L' h' news' ∧ m' "row" = some (.ref r) ∧ m' "rows" = some (.ref lr) ∧
      (h₈.objs.size, ({ cls := .type "range_iterator", data := .fields #[rawInt (0 + (k : Int) * 1), rawInt ((ws[i] : Int) - (k : Int)), rawInt 1] } : Obj)) ∈ news' ∧ SubX r news₆ news' ∧ (r, accObj d items ep') ∈ news' ∧ items.size = k ∧ ItemsIn news' items) ?_ ?_ ?_ ?_
    · rintro k s₂ ⟨h', tk', m', news', items, ep', rfl, F', N', -, -, hI', -⟩
      exact (N' _ hI').1
    · refine ⟨_, _, _, _, #[], 0, rfl, F₉, N₉, rfl, ?_, ?_, fun q hq _ => .tail _ hq, .tail _ h1₆, rfl, fun _ => 0, fun _ => 0, fun _ => 0, fun j hj => by simp at hj⟩
      · show (if ("rows" : Str) = "row" then _ else if ("rows" : Str) = "wish" then _ else mO "rows") = _
        rw [if_neg (by decide), if_neg (by decide)]
        exact hmO
      · simp
    · rintro k s₂ v hA tkA E'' hk ⟨h', tk', m₁, news', items, ep', rfl, F', N', hm1, hm2, hI', S', h1', hsz, hit'⟩ hP hst hkeep
      obtain ⟨FA, NA⟩ := upd_news F' N' hI' (fun b y hb e => hkeep b y (by simpa using hb) e) hst
      have SA := subX_upd (r := h₈.objs.size) (o' := ({ cls := .type "range_iterator", data := .fields #[rawInt (0 + ((k + 1 : Nat) : Int) * 1), rawInt ((ws[i] : Int) - ((k + 1 : Nat) : Int)), rawInt 1] } : Obj)) (news := news')
      have hIA := List.mem_cons_self (a := (h₈.objs.size, ({ cls := .type "range_iterator", data := .fields #[rawInt (0 + ((k + 1 : Nat) : Int) * 1), rawInt ((ws[i] : Int) - ((k + 1 : Nat) : Int)), rawInt 1] } : Obj))) (l := news'.filter (fun p => decide (p.1 ≠ h₈.objs.size)))
      generalize hnA : ((h₈.objs.size, ({ cls := .type "range_iterator", data := .fields #[rawInt (0 + ((k + 1 : Nat) : Int) * 1), rawInt ((ws[i] : Int) - ((k + 1 : Nat) : Int)), rawInt 1] } : Obj)) :: news'.filter (fun p => decide (p.1 ≠ h₈.objs.size))) = newsA at NA SA hIA
      have hrI9 : r ≠ h₈.objs.size := hIr _ h1₆
      have hdr : d ≠ r := Nat.ne_of_lt lr₆
      have h1A := SA _ h1' hrI9
      have h2A := SA _ (S' _ h2₆ hdr) (hIr _ h2₆)
      obtain ⟨tv, rfl⟩ := hP
      refine st_N FA NA fun hB FB NB => ?_
      have FC := fr_known FB [("row", .ref r), ("k", .int (0 + (k : Int) * 1) tv)] (by
        intro q hq
        rcases List.mem_cons.mp hq with rfl | hq
        · show (if ("row" : Str) = "k" then _ else m₁ "row") = _
          rw [if_neg (by decide)]; exact hm1
        · rcases List.mem_cons.mp hq with rfl | hq
          · exact if_pos rfl
          · cases hq)
      clear FB
      k_steps
      refine acc_method (f := .ref 52) (tf := .type "function") (X₁.keeps FC.keep) (inst_news NB h1A h2A) f_push (looks_typeIn (X₁.keeps FC.keep) f_fn.1.1) (by decide) no_is.2.1.2 ?_
      refine callWith_K X₁ keep_fn.2.2 ?_
      have hk97 : (0 : Int) ≤ 97 + (0 + (k : Int) * 1) ∧ (97 : Int) + (0 + (k : Int) * 1) < 128 := by omega
      refine wpAny_mono (Q := fun vs s₃ => Hold (∃ ta tb tk', vs = [.str " " ta, .str (letter k) tb] ∧ s₃ = { s with heap := hB, toks := tk' })) (E := E'') ?_ ?_ (fun _ _ z => z)
      · k_steps
        exact ⟨_, _, _, by rw [show (97 + (0 + (k : Int) * 1)).toNat = 97 + k by omega]; rfl, rfl⟩
      · rintro vs s₃ ⟨ta, tb, tk', rfl, rfl⟩
        refine ⟨X₁.keeps FC.keep, ?_⟩
        refine wpAny_call ?_
        refine c_push B₁ FC X₁ NB T₁ rfl rfl rfl (by ktr_room) (by ktr_units) (by omega) h1A h2A ?_
        intro hC newsC tkC q FC' NC SC hqC h1C
        refine wpAny_execs_nil ⟨rfl, hC, _, _, newsC, _, _, rfl, FC', NC, rfl, ?_, SC _ hIA (Ne.symm hrI9), fun q hq hne => SC _ (SA _ (S' q hq hne) (hIr q hq)) hne, h1C, by rw [Array.size_push, hsz], ?_⟩
        · show (if ("rows" : Str) = "k" then _ else m₁ "rows") = _
          rw [if_neg (by decide)]; exact hm2
        · subst hsz
          exact hit'.push (fun a o e c => SC _ (SA _ e (ne_of_cls N' e hI' (by rw [c]; simp))) (ne_of_cls N' e h1' (by rw [c]; simp))) hqC
    · rintro s₂ hA tkA ⟨h', tk', m₁, news', items, ep', rfl, F', N', hm1, hm2, hI', S', h1', hsz, hit'⟩ hkeep
      have hIA : ∀ b y, b ≠ h₈.objs.size → h'.get? b = some y → hA.get? b = some y := fun b y hb e => hkeep b y (by simpa using hb) e
      obtain ⟨FA, NA⟩ := drop_news F' N' hI' hIA
      have SA := subX_drop (r := h₈.objs.size) (news := news')
      generalize news'.filter (fun p => decide (p.1 ≠ h₈.objs.size)) = newsA at NA SA
      have hrI9 : r ≠ h₈.objs.size := hIr _ h1₆
      have hdr : d ≠ r := Nat.ne_of_lt lr₆
      have h1A := SA _ h1' hrI9
      have hr₆ := S₆ _ hr4
      have hlrr : lr ≠ r := Nat.ne_of_lt (Nat.lt_trans (ld₆ _ hr4) lr₆)
      have h2A := SA _ (S' _ h2₆ hdr) (hIr _ h2₆)
      have hlA := SA _ (S' _ hr₆ hlrr) (hIr _ hr₆)
      have FC := fr_known FA [("row", .ref r), ("rows", .ref lr)] (by
        intro q hq
        rcases List.mem_cons.mp hq with rfl | hq
        · exact hm1
        · rcases List.mem_cons.mp hq with rfl | hq
          · exact hm2
          · cases hq)
      clear FA
      dsimp only
      k_steps
      refine append_at (NA _ hlA).1 (fun hZ sbZ eZ => ?_) ?_
      · obtain ⟨FZ, NZ⟩ := upd_news FC NA hlA (fun b y hb e => sbZ.extBut b y hb e) eZ
        have SZ := subX_upd (r := lr) (o' := listOf ((rs.map Value.ref).toArray.push (.ref r)) (epO + 1)) (news := newsA)
        have hlZ := List.mem_cons_self (a := (lr, listOf ((rs.map Value.ref).toArray.push (.ref r)) (epO + 1))) (l := newsA.filter (fun p => decide (p.1 ≠ lr)))
        generalize ((lr, listOf ((rs.map Value.ref).toArray.push (.ref r)) (epO + 1)) :: newsA.filter (fun p => decide (p.1 ≠ lr))) = newsZ at NZ SZ hlZ
        have lift : ∀ a o, (a, o) ∈ news₄ → a ≠ lr → (a, o) ∈ newsZ := fun a o e hne => SZ _ (SA _ (S' _ (S₆ _ e) (Nat.ne_of_lt (Nat.lt_trans (ld₆ _ e) lr₆))) (hIr _ (S₆ _ e))) hne
        refine wpAny_execs_nil ⟨rfl, hZ, _, _, newsZ, rs ++ [r], epO + 1, rfl, FZ, NZ, rfl, ⟨oj, lift _ _ hi4 (Ne.symm hrI), hj2, hj3⟩, fun q hq => lift _ _ (S₄ _ (SO q hq) (hIl q hq)) (hrl q hq), ?_, ?_⟩
        · have e : (rs.map Value.ref).toArray.push (.ref r) = ((rs ++ [r]).map Value.ref).toArray := by simp
          rw [← e]; exact hlZ
        · have tk1 : ws.take (i + 1) = ws.take i ++ [ws[i]] := by rw [List.take_add_one, List.getElem?_eq_getElem hws4]; rfl
          have len1 : rs.length = (ws.take i).length := RO.1
          refine ⟨by rw [tk1, List.length_append, List.length_append, len1]; rfl, ?_, ?_⟩
          · rw [List.nodup_append]
            refine ⟨RO.2.1, by simp, ?_⟩
            intro a ha b hb
            rw [List.mem_singleton] at hb
            subst hb
            obtain ⟨j, hj, rfl⟩ := List.mem_iff_getElem.mp ha
            obtain ⟨_, _, _, hm9⟩ := (old4 j rs[j] ((ws.take i)[j]'(by omega)) (List.getElem?_eq_getElem hj) (List.getElem?_eq_getElem _)).mem
            exact Nat.ne_of_lt (Nat.lt_trans (ld₆ _ hm9) lr₆)
          · intro j r' n e1 e2
            rw [tk1] at e2
            by_cases hj : j < rs.length
            · rw [List.getElem?_append_left hj] at e1
              rw [List.getElem?_append_left (by omega)] at e2
              have o4 := old4 j r' n e1 e2
              obtain ⟨_, _, _, hm9⟩ := o4.mem
              refine o4.imp fun a o e c => lift a o e ?_
              rcases c with rfl | c | c
              · exact notlr _ _ hm9 (by simp)
              · exact notlr _ _ e (by rw [c]; simp)
              · exact notlr _ _ e (by rw [c]; simp)
            · have hj' : j = rs.length := by
                have := (List.getElem?_eq_some_iff.mp e1).1
                simp at this; omega
              subst hj'
              simp at e1
              subst e1
              rw [List.getElem?_append_right (by omega), show rs.length - (List.take i ws).length = 0 by omega] at e2
              simp at e2
              subst e2
              have hne : ∀ a o, (a, o) ∈ newsA → o.cls ≠ .type "list" → (a, o) ∈ newsZ := fun a o e c => SZ _ e (ne_of_cls NA e hlA c)
              exact ⟨d, items, ep', t, t', hne _ _ h1A (by simp), hne _ _ h2A (by simp), hsz, (hit'.imp fun a o e c => SA _ e (ne_of_cls N' e hI' (by rw [c]; simp))).imp fun a o e c => hne a o e (by rw [c]; simp)⟩
      · have := sizeLine_eq
        have := RO.1
        rw [List.size_toArray, List.length_map]
        rw [List.length_take] at this
        omega
  · rintro s₁ hZ tkZ ⟨hO, tkO, mO, newsO, rs, epO, rfl, FO, NO, hmO, ⟨oi, hi1, hi2, hi3⟩, SO, hrO, RO⟩ hkeep
    obtain ⟨FA, NA⟩ := drop_news FO NO hi1 (fun b y hb e => hkeep b y (by simpa using hb) e)
    have SA := subX_drop (r := h₂.objs.size) (news := newsO)
    have hlA := SA _ hrO hrI
    have FC := fr_known FA [("rows", .ref lr)] (by
      intro q hq
      rcases List.mem_cons.mp hq with rfl | hq
      · exact hmO
      · cases hq)
    have hfull : ws.take vs.toArray.size = ws := by rw [List.size_toArray, hlen, List.take_length]
    rw [hfull] at RO
    have RA : RowsIn w (newsO.filter (fun p => decide (p.1 ≠ h₂.objs.size))) rs ws := ⟨RO.1, RO.2.1, fun j r' n e1 e2 => by
      have := RO.2.2 j r' n e1 e2
      obtain ⟨_, _, _, hm9⟩ := this.mem
      exact this.subX NO hi1 SA (ne_of_cls NO hm9 hi1 (by rw [hi2]; simp)) (by rw [hi2]; simp) (by rw [hi2]; simp)⟩
    have SF : Sub news (newsO.filter (fun p => decide (p.1 ≠ h₂.objs.size))) := fun q hq => SA _ (SO q hq) (hIl q hq)
    generalize newsO.filter (fun p => decide (p.1 ≠ h₂.objs.size)) = newsA at NA SA hlA RA SF
    clear FA
    dsimp only
    k_steps
    exact h _ newsA _ lr epO rs (by assumption) (by assumption) SF hlA RA
end
end Mine
-- M26
namespace Mine
theorem fill26 : PySem.Challenge.rw_wr0007_01 = PySem.Challenge.rw_wr0007_01 ∧ hd.heap_39 = hd.heap_39 := by
  w_top off
  k_fill
  exact ⟨rfl, rfl⟩
local macro_rules | `(tactic| k_room) => `(tactic| ktr_room)
local macro_rules | `(tactic| k_units) => `(tactic| ktr_units)
section
variable {w : World} {A₀ A : Around} {base h₀ : Heap} {outer : List Env} {env : Env} {L : Addr} {m mg mb : Str → Option Value} {news : List (Addr × Obj)} {p : Program} {loose : List Str} {mean : ExcName → Option Value}
  {E : Value → Shared → Prop} {R : Result → Shared → Prop} {s : Shared}
set_option maxHeartbeats 8000000 in
theorem c_cl0 (B : Below A₀ base outer h₀) (F : Fr h₀ L s.heap m) (X₀ : (hd.heap_39 w.params).In h₀) (N : News h₀ L s.heap news) (T : Top p loose mean mg mb h₀) (hA : A.frames = some (env :: outer)) (hf : env.frame = some L) (hke : env.scope.kind = .function)
    (hh : A.handled = none) (hD : A.depth + 100 < recursionLimit) (hU : A.units + 100 < cLine) {t : Tok}
    (h : ∀ h' tk t, Fr h₀ L h' m → News h₀ L h' news → R (.ok (.ret (.str (Str.ofString "#") t))) { s with heap := h', toks := tk }) :
    codeAny (model P0 w) A (.call (.ref 28) ⟨[.str (Str.ofString "    ") t], []⟩) R s := by
  obtain ⟨hnd, dp, fr, gd, un⟩ := A
  dsimp only at hA hD hU hh
  subst hA
  subst hh
  refine' code_def (K := hd.heap_39 w.params) (prog := P0) (binds := [("line", .str (Str.ofString "    ") t)]) B F X₀ N T rfl hf hke ?k6 ?k7 ?k8 ?k9 ?kB ?_ ?c1 ?c2 ?c3 ?c4
  case k6 => k_is
  case k7 => k_is
  case k8 => dsimp only; omega
  case k9 => exact BindsTo.of_eq rfl
  case kB => exact locs rfl
  case c4 => decide
  case c2 => exact rfl
  case c3 => exact rfl
  case c1 => exact rfl
  intro g L' h₁ FG F₁ N₁ B₁ X₁ T₁
  k_steps
  exact h _ _ _ (by assumption) (by assumption)
set_option maxHeartbeats 8000000 in
theorem c_cl1 (B : Below A₀ base outer h₀) (F : Fr h₀ L s.heap m) (X₀ : (hd.heap_39 w.params).In h₀) (N : News h₀ L s.heap news) (T : Top p loose mean mg mb h₀) (hA : A.frames = some (env :: outer)) (hf : env.frame = some L) (hke : env.scope.kind = .function)
    (hh : A.handled = none) (hD : A.depth + 100 < recursionLimit) (hU : A.units + 100 < cLine) {t : Tok}
    (h : ∀ h' tk t, Fr h₀ L h' m → News h₀ L h' news → R (.ok (.ret (.str (Str.ofString "# " ++ Str.ofString "x") t))) { s with heap := h', toks := tk }) :
    codeAny (model P0 w) A (.call (.ref 28) ⟨[.str (Str.ofString "x   ") t], []⟩) R s := by
  obtain ⟨hnd, dp, fr, gd, un⟩ := A
  dsimp only at hA hD hU hh
  subst hA
  subst hh
  refine' code_def (K := hd.heap_39 w.params) (prog := P0) (binds := [("line", .str (Str.ofString "x   ") t)]) B F X₀ N T rfl hf hke ?k6 ?k7 ?k8 ?k9 ?kB ?_ ?c1 ?c2 ?c3 ?c4
  case k6 => k_is
  case k7 => k_is
  case k8 => dsimp only; omega
  case k9 => exact BindsTo.of_eq rfl
  case kB => exact locs rfl
  case c4 => decide
  case c2 => exact rfl
  case c3 => exact rfl
  case c1 => exact rfl
  intro g L' h₁ FG F₁ N₁ B₁ X₁ T₁
  k_steps
  exact h _ _ _ (by assumption) (by assumption)
set_option maxHeartbeats 8000000 in
theorem c_cl2 (B : Below A₀ base outer h₀) (F : Fr h₀ L s.heap m) (X₀ : (hd.heap_39 w.params).In h₀) (N : News h₀ L s.heap news) (T : Top p loose mean mg mb h₀) (hA : A.frames = some (env :: outer)) (hf : env.frame = some L) (hke : env.scope.kind = .function)
    (hh : A.handled = none) (hD : A.depth + 100 < recursionLimit) (hU : A.units + 100 < cLine) {t : Tok}
    (h : ∀ h' tk t, Fr h₀ L h' m → News h₀ L h' news → R (.ok (.ret (.str (Str.ofString "# " ++ Str.ofString "xx") t))) { s with heap := h', toks := tk }) :
    codeAny (model P0 w) A (.call (.ref 28) ⟨[.str (Str.ofString "xx  ") t], []⟩) R s := by
  obtain ⟨hnd, dp, fr, gd, un⟩ := A
  dsimp only at hA hD hU hh
  subst hA
  subst hh
  refine' code_def (K := hd.heap_39 w.params) (prog := P0) (binds := [("line", .str (Str.ofString "xx  ") t)]) B F X₀ N T rfl hf hke ?k6 ?k7 ?k8 ?k9 ?kB ?_ ?c1 ?c2 ?c3 ?c4
  case k6 => k_is
  case k7 => k_is
  case k8 => dsimp only; omega
  case k9 => exact BindsTo.of_eq rfl
  case kB => exact locs rfl
  case c4 => decide
  case c2 => exact rfl
  case c3 => exact rfl
  case c1 => exact rfl
  intro g L' h₁ FG F₁ N₁ B₁ X₁ T₁
  k_steps
  exact h _ _ _ (by assumption) (by assumption)
set_option maxHeartbeats 8000000 in
theorem c_cl3 (B : Below A₀ base outer h₀) (F : Fr h₀ L s.heap m) (X₀ : (hd.heap_39 w.params).In h₀) (N : News h₀ L s.heap news) (T : Top p loose mean mg mb h₀) (hA : A.frames = some (env :: outer)) (hf : env.frame = some L) (hke : env.scope.kind = .function)
    (hh : A.handled = none) (hD : A.depth + 100 < recursionLimit) (hU : A.units + 100 < cLine) {t : Tok}
    (h : ∀ h' tk t, Fr h₀ L h' m → News h₀ L h' news → R (.ok (.ret (.str (Str.ofString "# " ++ Str.ofString "xxx") t))) { s with heap := h', toks := tk }) :
    codeAny (model P0 w) A (.call (.ref 28) ⟨[.str (Str.ofString "xxx ") t], []⟩) R s := by
  obtain ⟨hnd, dp, fr, gd, un⟩ := A
  dsimp only at hA hD hU hh
  subst hA
  subst hh
  refine' code_def (K := hd.heap_39 w.params) (prog := P0) (binds := [("line", .str (Str.ofString "xxx ") t)]) B F X₀ N T rfl hf hke ?k6 ?k7 ?k8 ?k9 ?kB ?_ ?c1 ?c2 ?c3 ?c4
  case k6 => k_is
  case k7 => k_is
  case k8 => dsimp only; omega
  case k9 => exact BindsTo.of_eq rfl
  case kB => exact locs rfl
  case c4 => decide
  case c2 => exact rfl
  case c3 => exact rfl
  case c1 => exact rfl
  intro g L' h₁ FG F₁ N₁ B₁ X₁ T₁
  k_steps
  exact h _ _ _ (by assumption) (by assumption)
set_option maxHeartbeats 8000000 in
theorem c_cl4 (B : Below A₀ base outer h₀) (F : Fr h₀ L s.heap m) (X₀ : (hd.heap_39 w.params).In h₀) (N : News h₀ L s.heap news) (T : Top p loose mean mg mb h₀) (hA : A.frames = some (env :: outer)) (hf : env.frame = some L) (hke : env.scope.kind = .function)
    (hh : A.handled = none) (hD : A.depth + 100 < recursionLimit) (hU : A.units + 100 < cLine) {t : Tok}
    (h : ∀ h' tk t, Fr h₀ L h' m → News h₀ L h' news → R (.ok (.ret (.str (Str.ofString "# " ++ Str.ofString "xxxx") t))) { s with heap := h', toks := tk }) :
    codeAny (model P0 w) A (.call (.ref 28) ⟨[.str (Str.ofString "xxxx") t], []⟩) R s := by
  obtain ⟨hnd, dp, fr, gd, un⟩ := A
  dsimp only at hA hD hU hh
  subst hA
  subst hh
  refine' code_def (K := hd.heap_39 w.params) (prog := P0) (binds := [("line", .str (Str.ofString "xxxx") t)]) B F X₀ N T rfl hf hke ?k6 ?k7 ?k8 ?k9 ?kB ?_ ?c1 ?c2 ?c3 ?c4
  case k6 => k_is
  case k7 => k_is
  case k8 => dsimp only; omega
  case k9 => exact BindsTo.of_eq rfl
  case kB => exact locs rfl
  case c4 => decide
  case c2 => exact rfl
  case c3 => exact rfl
  case c1 => exact rfl
  intro g L' h₁ FG F₁ N₁ B₁ X₁ T₁
  k_steps
  exact h _ _ _ (by assumption) (by assumption)
/-- a column with j marks -/
def colText : Nat → Str
  | 0 => Str.ofString "    "
  | 1 => Str.ofString "x   "
  | 2 => Str.ofString "xx  "
  | 3 => Str.ofString "xxx "
  | _ => Str.ofString "xxxx"
/-- .. as it is noted -/
def noteText : Nat → Str
  | 0 => Str.ofString "#"
  | 1 => Str.ofString "# " ++ Str.ofString "x"
  | 2 => Str.ofString "# " ++ Str.ofString "xx"
  | 3 => Str.ofString "# " ++ Str.ofString "xxx"
  | _ => Str.ofString "# " ++ Str.ofString "xxxx"
end
end Mine
-- M27
namespace Mine
theorem fill27 : PySem.Challenge.rw_wr0007_01 = PySem.Challenge.rw_wr0007_01 ∧ hd.heap_39 = hd.heap_39 := by
  w_top off
  k_fill
  exact ⟨rfl, rfl⟩
local macro_rules | `(tactic| k_room) => `(tactic| ktr_room)
local macro_rules | `(tactic| k_units) => `(tactic| ktr_units)
section
variable {w : World} {A₀ A : Around} {base h₀ : Heap} {outer : List Env} {env : Env} {L : Addr} {m mg mb : Str → Option Value} {news : List (Addr × Obj)} {p : Program} {loose : List Str} {mean : ExcName → Option Value}
  {E : Value → Shared → Prop} {R : Result → Shared → Prop} {s : Shared}
theorem fr_name' {g h : Heap} {L : Addr} {m : Str → Option Value} (F : Fr g L h m) : ∃ m', m' = m ∧ Fr g L h m' := ⟨m, rfl, F⟩
theorem sp_item {value slice : PySem.Expr} {x y : Str} {i : Int} {t u : Tok} {Q : Value → Shared → Prop} (hi : Txt.item x i = y) (h1 : 0 ≤ i) (h2 : i < x.length) (h3 : i < 100)
    (h : Q (.str y s.toks) { s with toks := s.toks + 1 })
    (hs : subscripted slice false (.str x t) (.int i u) = operate [.str x t, .int i u] (getItem (.str x t) (.int i u)))
    (ht : ∀ r, letTemporaryGo value (.str x t) r = pure ()) :
    wpAny (model P0 w) A (subscriptTail value slice (.str x t) (.int i u)) Q E s := by
  refine item_str ?_ (by omega) h2 (fun _ => by rw [hi]; exact h) hs ht
  have : ∀ k : Nat, k < 100 → fitsSsize (k : Int) = true := by decide +kernel
  have e := this i.toNat (by omega)
  rwa [Int.toNat_of_nonneg h1] at e
/-- a wall: the walk lets it stand -/
def Wall27 (P : Prop) : Prop := P
theorem wall27 {P : Prop} (h : Wall27 P) : P := h
local macro_rules | `(tactic| walk_at "exec While BoolOp cons nil") => `(tactic| refine wall27 ?_)
local macro_rules | `(tactic| walk_at "subscriptTail Name Name str int") => `(tactic| ((with_reducible show wpAny _ _ (subscriptTail _ _ (Value.str _ _) (Value.int _ _)) _ _ _); with_unfolding_all refine' sp_item ?k1 ?k2 ?k3 ?k4 ?_ ?k6 ?k7; (case k1 => assumption); (case k2 => assumption); (case k3 => assumption); (case k4 => assumption); (case k6 => with_unfolding_all rfl); (case k7 => (intro _; with_unfolding_all rfl))))
set_option maxHeartbeats 8000000 in
theorem c_sp {x : Str} {n k : Nat} {t u : Tok} (B : Below A₀ base outer h₀) (F : Fr h₀ L s.heap m) (X₀ : (hd.heap_39 w.params).In h₀) (N : News h₀ L s.heap news) (T : Top p loose mean mg mb h₀) (hA : A.frames = some (env :: outer)) (hf : env.frame = some L) (hke : env.scope.kind = .function)
    (hh : A.handled = none) (hD : A.depth + 100 < recursionLimit) (hU : A.units + 100 < cLine)
    (hx : x.length = n + 1) (hn : n < 26) (hk : k ≤ 4) (h1 : ∀ i : Nat, i < n → Txt.item x i = Str.ofString " ") (h2 : Txt.item x n = Str.ofString "x")
    (h : ∀ h' tk t, Fr h₀ L h' m → News h₀ L h' news → R (.ok (.ret (.str (Txt.slice x (some (min n k : Nat)) (some ((n : Int) + 1))) t))) { s with heap := h', toks := tk }) :
    codeAny (model P0 w) A (.call (.ref 126) ⟨[.str x t, .int (k : Int) u], []⟩) R s := by
  obtain ⟨hnd, dp, fr, gd, un⟩ := A
  dsimp only at hA hD hU hh
  subst hA
  subst hh
  refine' code_def (K := hd.heap_39 w.params) (prog := P0) (binds := [("s", .str x t), ("amount", .int (k : Int) u)]) B F X₀ N T rfl hf hke ?k6 ?k7 ?k8 ?k9 ?kB ?_ ?c1 ?c2 ?c3 ?c4
  case k6 => k_is
  case k7 => k_is
  case k8 => dsimp only; omega
  case k9 => exact BindsTo.of_eq rfl
  case kB => exact locs rfl
  case c4 => decide
  case c2 => exact rfl
  case c3 => exact rfl
  case c1 => exact rfl
  intro g L' h₁ FG F₁ N₁ B₁ X₁ T₁
  k_steps
  rename_i h₂ F₂ N₂
  refine wpAny_mono (Q := fun f s₂ => Hold (f = .next ∧ ∃ h' tk' m' t0 t1, s₂ = { s with heap := h', toks := tk' } ∧ Fr g L' h' m' ∧ News g L' h' news ∧ m' "s" = some (.str x t) ∧ m' "amount" = some (.int ((k : Int) - (min n k : Nat)) t0) ∧ m' "lpos" = some (.int (min n k : Nat) t1))) ?_ ?_ (fun _ _ z => z)
  · refine While_inv2 (fun j m' news' => ∃ (i : Nat) (t0 t1 : Tok), news' = news ∧ i ≤ n ∧ i ≤ k ∧ j = k - i ∧ m' "s" = some (.str x t) ∧ m' "amount" = some (.int ((k : Int) - (i : Nat)) t0) ∧ m' "lpos" = some (.int (i : Nat) t1)) (n₀ := k) F₂ N₂ ⟨0, u, _, rfl, by omega, by omega, rfl, rfl, by rw [Int.natCast_zero, Int.sub_zero]; rfl, rfl⟩ ?_
    rintro j m₃ news₃ h₃ tk₃ F₃ N₃ ⟨i, t0, t1, rfl, hin, hik, rfl, hms, hma, hml⟩
    have F₄ := fr_known F₃ [("s", .str x t), ("amount", .int ((k : Int) - (i : Nat)) t0), ("lpos", .int (i : Nat) t1)] (by
      intro q hq
      rcases List.mem_cons.mp hq with rfl | hq
      · exact hms
      · rcases List.mem_cons.mp hq with rfl | hq
        · exact hma
        · rcases List.mem_cons.mp hq with rfl | hq
          · exact hml
          · cases hq)
    clear F₃ F₂ N₂
    by_cases hki : k = i
    · subst hki
      rw [Int.sub_self] at F₄
      k_steps
      refine ⟨rfl, h₃, _, _, t0, t1, rfl, F₄, N₃, rfl, ?_, ?_⟩
      · rw [Nat.min_eq_right hin, Int.sub_self]; rfl
      · rw [Nat.min_eq_right hin]; rfl
    · have hpos : 0 < (k : Int) - (i : Nat) := by omega
      have hi0 : 0 ≤ (i : Int) := by omega
      have hi2 : (i : Int) < x.length := by omega
      have hi3 : (i : Int) < 100 := by omega
      by_cases hni : i = n
      · subst hni
        k_steps
        all_goals try (exfalso; omega)
        refine ⟨rfl, h₃, _, _, t0, t1, rfl, F₄, N₃, rfl, ?_, ?_⟩
        · rw [Nat.min_eq_left hik]; rfl
        · rw [Nat.min_eq_left hik]; rfl
      · have hit := h1 i (by omega)
        k_steps
        all_goals try (exfalso; omega)
        rename_i hB FB NB
        obtain ⟨mB, emB, FB'⟩ := fr_name' FB
        have e1 : ∃ t9, mB "amount" = some (.int ((k : Int) - ((i + 1 : Nat) : Int)) t9) := by
          rw [emB, show (k : Int) - ((i + 1 : Nat) : Int) = (k : Int) - (i : Int) - 1 by omega]; exact ⟨_, rfl⟩
        have e2 : ∃ t9, mB "lpos" = some (.int ((i + 1 : Nat) : Int) t9) := by
          rw [emB, show ((i + 1 : Nat) : Int) = (i : Int) + 1 by omega]; exact ⟨_, rfl⟩
        have e3 : mB "s" = some (.str x t) := by rw [emB]; rfl
        obtain ⟨t8, e1⟩ := e1
        obtain ⟨t9, e2⟩ := e2
        exact ⟨hB, _, mB, _, k - (i + 1), rfl, FB', NB, by omega, i + 1, t8, t9, rfl, by omega, by omega, rfl, e3, e1, e2⟩
  · rintro f s₂ ⟨rfl, h₃, tk₃, m₃, t0, t1, rfl, F₃, N₃, hms, hma, hml⟩
    dsimp only
    have F₄ := fr_known F₃ [("s", .str x t), ("amount", .int ((k : Int) - (min n k : Nat)) t0), ("lpos", .int (min n k : Nat) t1)] (by
      intro q hq
      rcases List.mem_cons.mp hq with rfl | hq
      · exact hms
      · rcases List.mem_cons.mp hq with rfl | hq
        · exact hma
        · rcases List.mem_cons.mp hq with rfl | hq
          · exact hml
          · cases hq)
    clear F₃ F₂ N₂
    k_steps
    rename_i h₅ F₅ N₅
    rw [show (x.length : Int) - 1 = (n : Int) by omega] at F₅
    refine wpAny_mono (Q := fun f s₂ => Hold (f = .next ∧ ∃ h' tk' m', s₂ = { s with heap := h', toks := tk' } ∧ Fr g L' h' m' ∧ News g L' h' news ∧ m' "s" = some (.str x t) ∧ (∃ tr, m' "rpos" = some (.int (n : Int) tr)) ∧ m' "lpos" = some (.int (min n k : Nat) t1))) ?_ ?_ (fun _ _ z => z)
    · refine While_inv2 (fun j m' news' => news' = news ∧ ∃ ta tr, m' "s" = some (.str x t) ∧ m' "amount" = some (.int ((k : Int) - (min n k : Nat)) ta) ∧ m' "rpos" = some (.int (n : Int) tr) ∧ m' "lpos" = some (.int (min n k : Nat) t1)) (n₀ := 0) F₅ N₅ ⟨rfl, _, _, rfl, rfl, rfl, rfl⟩ ?_
      rintro j m₆ news₆ h₆ tk₆ F₆ N₆ ⟨rfl, ta, tr, hms, hma, hmr, hml⟩
      have F₇ := fr_known F₆ [("s", .str x t), ("amount", .int ((k : Int) - (min n k : Nat)) ta), ("rpos", .int (n : Int) tr), ("lpos", .int (min n k : Nat) t1)] (by
        intro q hq
        rcases List.mem_cons.mp hq with rfl | hq
        · exact hms
        · rcases List.mem_cons.mp hq with rfl | hq
          · exact hma
          · rcases List.mem_cons.mp hq with rfl | hq
            · exact hmr
            · rcases List.mem_cons.mp hq with rfl | hq
              · exact hml
              · cases hq)
      clear F₆
      by_cases hki : k ≤ n
      · rw [Nat.min_eq_right hki, Int.sub_self] at F₇
        k_steps
        exact ⟨rfl, h₆, _, _, rfl, F₇, N₆, rfl, ⟨tr, rfl⟩, by rw [Nat.min_eq_right hki]; rfl⟩
      · have hpos : 0 < (k : Int) - (min n k : Nat) := by omega
        have hi0 : 0 ≤ (n : Int) := by omega
        have hi2 : (n : Int) < x.length := by omega
        have hi3 : (n : Int) < 100 := by omega
        k_steps
        all_goals try (exfalso; omega)
        refine ⟨rfl, h₆, _, _, rfl, F₇, N₆, rfl, ⟨tr, rfl⟩, rfl⟩
    · rintro f s₂ ⟨rfl, h₃, tk₃, m₆, rfl, F₆, N₆, hms, ⟨tr, hmr⟩, hml⟩
      dsimp only
      have F₇ := fr_known F₆ [("s", .str x t), ("rpos", .int (n : Int) tr), ("lpos", .int (min n k : Nat) t1)] (by
        intro q hq
        rcases List.mem_cons.mp hq with rfl | hq
        · exact hms
        · rcases List.mem_cons.mp hq with rfl | hq
          · exact hmr
          · rcases List.mem_cons.mp hq with rfl | hq
            · exact hml
            · cases hq)
      clear F₆
      k_steps
      exact h _ _ _ (by assumption) (by assumption)
end
end Mine
-- M17
set_option maxHeartbeats 4000000
namespace Mine
section
variable {w : World} {A : Around} {g : Heap} {L : Addr} {m : Str → Option Value} {news : List (Addr × Obj)} {E : Value → Shared → Prop} {s : Shared}

/-- what stands in every state of the run: the frame, the ledger, the tables, the rest -/
structure Stand (g : Heap) (L : Addr) (m : Str → Option Value) (s s' : Shared) (news : List (Addr × Obj)) : Prop where
  F : Fr g L s'.heap m
  N : News g L s'.heap news
  T : Tabs news
  bare : AllBare s'.gens
  os : s'.os = s.os

def KstOut (ks : List Str) (vs out : List Value) : Prop :=
  ∃ ps : List (Str × Value), ps.Perm (ks.zip vs) ∧ out = ps.map Prod.snd ∧ ps.Pairwise (fun p q => ¬ (q.1.cps.toList < p.1.cps.toList))

theorem kst_snoc {x : Str} {t : Tok} : ∀ {vs : List Value} {ns : List Str}, StrsAre vs ns → StrsAre (vs ++ [.str x t]) (ns ++ [x])
  | _, _, .nil => .cons x t .nil
  | _, _, .cons n' t' h => .cons n' t' (kst_snoc h)
theorem kst_len : ∀ {vs : List Value} {ns : List Str}, StrsAre vs ns → vs.length = ns.length
  | _, _, .nil => rfl
  | _, _, .cons n' t' h => by rw [List.length_cons, List.length_cons, kst_len h]

theorem kst_out {keys : Array Value} {vs : List Value} {kz : List Str} (hk : StrsAre keys.toList kz) {xs : Array Keyed} (hp : xs.Perm (keys.zip vs.toArray)) (hs : SortedToK strKind xs xs.size) :
    KstOut kz vs (xs.map (·.2)).toList := by
  have hl : xs.toList.Perm (keys.toList.zip vs) := by rw [← ksk_zip]; exact Array.perm_iff_toList_perm.mp hp
  have h1 : (xs.toList.map (fun p : Keyed => (strOf p.1, p.2))).Perm (kz.zip vs) := by
    have e2 : (keys.toList.zip vs).map (fun p : Keyed => (strOf p.1, p.2)) = kz.zip vs := by
      rw [← hk.strs, List.zip_map_left]
      exact List.map_congr_left fun ⟨x, y⟩ _ => rfl
    rw [← e2]
    exact hl.map _
  have h2 : (xs.map (·.2)).toList = (xs.toList.map (fun p : Keyed => (strOf p.1, p.2))).map Prod.snd := by
    rw [Array.toList_map, List.map_map]
    rfl
  refine ⟨_, h1, h2, ?_⟩
  rw [List.pairwise_iff_getElem]
  intro i j hi hj hij
  have hi' : i < xs.size := by simpa using hi
  have hj' : j < xs.size := by simpa using hj
  have q := hs i j (Nat.le_of_lt hij) hj'
  have hall : ∀ p ∈ xs.toList, ∃ x t, p.1 = .str x t := fun p hp' => hk.all _ (List.of_mem_zip (hl.mem_iff.mp hp')).1
  obtain ⟨x, t, ex⟩ := hall xs[i] (by simp)
  obtain ⟨y, u, ey⟩ := hall xs[j] (by simp)
  rw [KK_str hi' (x := x) (t := t) (q := xs[i].2) (Prod.ext ex rfl), KK_str hj' (x := y) (t := u) (q := xs[j].2) (Prod.ext ey rfl)] at q
  change decide (y.cps.toList < x.cps.toList) = false at q
  simp only [List.getElem_map, Array.getElem_toList]
  rw [show strOf xs[i].1 = x by rw [ex]; rfl, show strOf xs[j].1 = y by rw [ey]; rfl]
  exact of_decide_eq_false q

theorem kst_keys {keys : Array Value} {vs : List Value} {kz : List Str} (hk : StrsAre keys.toList kz) : KeysOf strKind (keys.zip vs.toArray) := by
  intro p hp
  rw [ksk_zip] at hp
  obtain ⟨x, y⟩ := p
  obtain ⟨z, t, e⟩ := hk.all _ (List.of_mem_zip hp).1
  exact ⟨z.cps.toList, by rw [e]⟩
theorem kst_kind {keys : Array Value} {kz : List Str} (hk : StrsAre keys.toList kz) (h2 : 2 ≤ keys.size) : keyKind' keys = pure oneType' := by
  obtain ⟨v₁, v₂, rest, e⟩ : ∃ v₁ v₂ rest, keys.toList = v₁ :: v₂ :: rest := by
    have hl : 2 ≤ keys.toList.length := by rw [Array.length_toList]; exact h2
    cases q : keys.toList with
    | nil => rw [q] at hl; simp at hl
    | cons v₁ r =>
      cases r with
      | nil => rw [q] at hl; simp at hl
      | cons v₂ rest => exact ⟨v₁, v₂, rest, rfl⟩
  have ek : keys = (v₁ :: v₂ :: rest).toArray := by rw [← e, Array.toArray_toList]
  rw [e] at hk
  rw [ek]
  exact keyKind_strs hk

theorem tabs_upd {a : Addr} {o o' : Obj} {h : Heap} (N : News g L h news) (T : Tabs news) (ha : (a, o) ∈ news) (hc : o.cls ≠ .none) : Tabs ((a, o') :: news.filter (fun p => decide (p.1 ≠ a))) := by
  obtain ⟨n1, n2⟩ := acc_not N T ha hc
  obtain ⟨⟨o1, m1, g1⟩, ⟨o2, m2, g2⟩⟩ := T
  exact ⟨⟨o1, subX_upd _ m1 (Ne.symm n1), g1⟩, ⟨o2, subX_upd _ m2 (Ne.symm n2), g2⟩⟩
theorem tabs_sub {news' : List (Addr × Obj)} (T : Tabs news) (S : Sub news news') : Tabs news' := by
  obtain ⟨⟨o1, m1, g1⟩, ⟨o2, m2, g2⟩⟩ := T
  exact ⟨⟨o1, S _ m1, g1⟩, ⟨o2, S _ m2, g2⟩⟩

variable {a kS : Addr} {vs : List Value} {kz : List Str} {keys : Array Value} {e e1 : Nat} {P : PySem.Fin → Shared → Prop} {s₀ : Shared}

theorem kst_tail {st : SortSt} (Z : Stand g L m s₀ s news) (mk : (kS, seqObj "list" keys e) ∈ news) (ma : (a, seqObj "list" #[] e1) ∈ news) (hka : kS ≠ a)
    (hk : StrsAre keys.toList kz) (hlen : kz.length = vs.length) (h64 : vs.length < 64) (hp : (arrOf st).Perm (keys.zip vs.toArray)) (hs : SortedToK strKind (arrOf st) (arrOf st).size) (hfl : failedOf st = none)
    (h : ∀ s' news' out c, Stand g L m s₀ s' news' → (∀ q ∈ news, q.1 ≠ kS → q.1 ≠ a → q ∈ news') → (a, seqObj "list" out c) ∈ news' → KstOut kz vs out.toList → P (.done (.ret .none)) s') :
    wpAny (model P0 w) A (ksk_tail a false e1 (.ref kS) st) P E s := by
  have nk := Z.N _ mk
  have na := Z.N _ ma
  have hsz : keys.size = vs.length := by
    have h1 := kst_len hk
    rw [Array.length_toList] at h1
    omega
  have hsz2 : (arrOf st).size = vs.length := by rw [hp.size_eq, Array.size_zip, hsz, List.size_toArray, Nat.min_self]
  have s1 := Heap.SameBut.update s.heap kS (Obj.mapSeq fun _ => (#[] : Array Value))
  have na1 : (s.heap.update kS (Obj.mapSeq fun _ => (#[] : Array Value))).get? a = some (seqObj "list" #[] e1) := (s1.2 a hka.symm).trans na.1
  obtain ⟨c1, hc1⟩ : ∃ c1, (s.heap.update kS (Obj.mapSeq fun _ => (#[] : Array Value))).get? kS = some (seqObj "list" #[] c1) := ⟨_, get?_update_seq nk.1 fun _ => #[]⟩
  have s2 := Heap.SameBut.update (s.heap.update kS (Obj.mapSeq fun _ => (#[] : Array Value))) a (Obj.mapSeq fun _ => (arrOf st).map (·.2))
  obtain ⟨c2, hc2⟩ : ∃ c2, ((s.heap.update kS (Obj.mapSeq fun _ => (#[] : Array Value))).update a (Obj.mapSeq fun _ => (arrOf st).map (·.2))).get? a = some (seqObj "list" ((arrOf st).map (·.2)) c2) :=
    by
      have q := get?_update_seq na1 (fun _ => (arrOf st).map (·.2))
      generalize (if ((fun _ => (arrOf st).map (·.2)) (#[] : Array Value)).size == (#[] : Array Value).size then e1 else e1 + 1) = c9 at q
      exact ⟨c9, q⟩
  obtain ⟨F1, N1⟩ := upd_news Z.F Z.N mk (fun b y hb e => s1.extBut b y hb e) hc1
  have T1 := tabs_upd (o' := seqObj "list" #[] c1) Z.N Z.T mk (by simp)
  have ma1 : (a, seqObj "list" #[] e1) ∈ ((kS, seqObj "list" #[] c1) :: news.filter (fun p => decide (p.1 ≠ kS))) := subX_upd _ ma (Ne.symm hka)
  obtain ⟨F2, N2⟩ := upd_news F1 N1 ma1 (fun b y hb e => s2.extBut b y hb e) hc2
  have T2 := tabs_upd (o' := seqObj "list" ((arrOf st).map (·.2)) c2) N1 T1 ma1 (by simp)
  unfold ksk_tail
  try dsimp only
  refine wpAny_bind (listUpdate_at nk.1 rfl ?_ (by rw [hsz, sizeLine_eq]; omega) (Nat.zero_le _))
  refine wpAny_bind (wpAny_letGo ?_)
  refine wpAny_bind (seqEpoch_at na1 rfl ?_)
  refine wpAny_bind (listUpdate_at na1 rfl ?_ (Nat.zero_le _) (Nat.le_trans (m := vs.length) (Nat.le_of_eq (by rw [if_neg (by decide), Array.size_map]; exact hsz2)) (by rw [sizeLine_eq]; omega)))
  rw [hfl]
  simp only [bne_self_eq_false, Bool.false_eq_true, if_false]
  exact wpAny_pure (h _ _ _ c2 ⟨F2, N2, T2, Z.bare, Z.os⟩ (fun q hq h1 h2 => subX_upd _ (subX_upd _ hq h1) h2) (.head _) (kst_out hk hp hs))

theorem kst_end (Z : Stand g L m s₀ s news) (mk : (kS, seqObj "list" keys e) ∈ news) (ma : (a, seqObj "list" #[] e1) ∈ news) (hka : kS ≠ a)
    (hk : StrsAre keys.toList kz) (hlen : kz.length = vs.length) (h2 : 2 ≤ vs.length) (h64 : vs.length < 64)
    (h : ∀ s' news' out c, Stand g L m s₀ s' news' → (∀ q ∈ news, q.1 ≠ kS → q.1 ≠ a → q ∈ news') → (a, seqObj "list" out c) ∈ news' → KstOut kz vs out.toList → P (.done (.ret .none)) s') :
    wpAny (model P0 w) A (ksk_end a false vs.toArray e1 (.ref kS) keys) P E s := by
  have hsz : keys.size = vs.length := by
    have h1 := kst_len hk
    rw [Array.length_toList] at h1
    omega
  have hzs : (keys.zip vs.toArray).size = vs.length := by rw [Array.size_zip, hsz, List.size_toArray, Nat.min_self]
  unfold ksk_end
  dsimp only
  rw [if_neg (by decide), if_neg (by rw [List.size_toArray]; omega), if_neg (by rw [List.size_toArray]; omega)]
  rw [kst_kind hk (by rw [hsz]; omega)]
  refine wpAny_bind (wpAny_pure ?_)
  refine wpAny_bind (wpAny_mono (wpS_sortRunsK (κ := strKind) strKind_oneLt (a₀ := keys.zip vs.toArray) (st := SortSt.mk' oneType' (keys.zip vs.toArray) #[] 7 none)
    (Q := fun _ st' => (arrOf st').Perm (keys.zip vs.toArray) ∧ failedOf st' = none ∧ SortedToK strKind (arrOf st') (keys.zip vs.toArray).size)
    (kst_keys hk) ⟨Array.Perm.refl _, rfl, rfl, rfl⟩ (by rw [hzs]; omega) (by rw [hzs]; exact h64) fun st' a1 a2 a3 => ⟨a1, a2, a3⟩) ?_ fun _ _ e => e)
  rintro ⟨⟨⟩, st'⟩ s' ⟨rfl, hp, hf, hs⟩
  try dsimp only
  exact kst_tail Z mk ma hka hk hlen h64 hp (by rw [hp.size_eq]; exact hs) hf h
end
end Mine
-- M18
set_option maxHeartbeats 4000000
namespace Mine
section
variable {w : World} {A : Around} {g : Heap} {L : Addr} {m : Str → Option Value} {news news₀ : List (Addr × Obj)} {E : Value → Shared → Prop} {s s₀ : Shared}
  {a kS l : Addr} {vs : List Value} {kz : List Str} {e1 : Nat} {P : PySem.Fin → Shared → Prop} {f : Value} {Q : Value → Shared → Prop}

def KstTurn (w : World) (A : Around) (g : Heap) (L : Addr) (m : Str → Option Value) (s₀ : Shared) (news₀ : List (Addr × Obj)) (vs : List Value) (kz : List Str) (f : Value) : Prop :=
  ∀ (i : Nat) (v : Value) (k : Str), vs[i]? = some v → kz[i]? = some k → ∀ s' news', Stand g L m s₀ s' news' → SubT news₀ news' →
    wpAny (model P0 w) A (call f [v]) (fun y s'' => Hold (∃ t news'', y = .str k t ∧ Stand g L m s₀ s'' news'' ∧ SubT news' news'')) (fun _ _ => False) s'

theorem kst_rest (Z : Stand g L m s₀ s news) (S0 : SubT news₀ news) (h0k : ∀ q ∈ news₀, q.1 ≠ kS) (h0a : ∀ q ∈ news₀, q.1 ≠ a) (mk : (kS, seqObj "list" #[] 0) ∈ news) (ma : (a, seqObj "list" #[] e1) ∈ news) (hka : kS ≠ a)
    (hlen : kz.length = vs.length) (h2 : 2 ≤ vs.length) (h64 : vs.length < 64)
    (turn : KstTurn w A g L m s₀ news₀ vs kz f)
    (h : ∀ s' news' out c, Stand g L m s₀ s' news' → SubT news₀ news' → (a, seqObj "list" out c) ∈ news' → KstOut kz vs out.toList → P (.done (.ret .none)) s') :
    wpAny (model P0 w) A (ksk_rest a f false vs.toArray e1 (.ref kS)) P E s := by
  unfold ksk_rest
  refine wpAny_bind (wpAny_rule ?_)
  first
    | rw [List.forIn_toArray]
    | (rw [← Array.forIn_toList]; simp only [List.toList_toArray])
    | rw [← Array.forIn_toList]
  refine wpAny_bind (ksk_fold (fun i s' => ∃ news' kA e, Stand g L m s₀ s' news' ∧ SubT news₀ news' ∧ (kS, seqObj "list" kA e) ∈ news' ∧ (a, seqObj "list" #[] e1) ∈ news' ∧ StrsAre kA.toList (kz.take i)) vs 0 s
    ⟨news, #[], 0, Z, S0, mk, ma, by simpa using StrsAre.nil⟩ ?step ?done)
  case step =>
    rintro j x s' hx ⟨news', kA, e, Z', S', mk', ma', hk⟩
    simp only [Nat.zero_add] at hk ⊢
    have hj : j < vs.length := (List.getElem?_eq_some_iff.mp hx).1
    obtain ⟨k, hkj⟩ : ∃ k, kz[j]? = some k := ⟨_, List.getElem?_eq_getElem (by omega)⟩
    have hz : kA.size ≤ vs.length := by
      have h1 := kst_len hk
      rw [Array.length_toList, List.length_take] at h1
      omega
    refine wpAny_bind (wpAny_attempt (wpAny_mono (turn j x k hx hkj s' news' Z' S') (fun v s'' he => ?_) fun _ _ hF => hF.elim))
    obtain ⟨t2, news2, rfl, Z2, S2⟩ := he
    try dsimp only
    have mk2 := S2 _ mk' (acc_not Z'.N Z'.T mk' (by simp)).1 (acc_not Z'.N Z'.T mk' (by simp)).2
    have ma2 := S2 _ ma' (acc_not Z'.N Z'.T ma' (by simp)).1 (acc_not Z'.N Z'.T ma' (by simp)).2
    have nk := Z2.N _ mk2
    have s1 := Heap.SameBut.update s''.heap kS (Obj.mapSeq (·.push (.str k t2)))
    obtain ⟨c2, hc2⟩ : ∃ c2, (s''.heap.update kS (Obj.mapSeq (·.push (.str k t2)))).get? kS = some (seqObj "list" (kA.push (.str k t2)) c2) := ⟨_, get?_update_seq nk.1 (·.push (.str k t2))⟩
    have ek : kz.take (j + 1) = kz.take j ++ [k] := by rw [List.take_add_one, hkj]; simp
    have ea : (kA.push (Value.str k t2)).toList = kA.toList ++ [Value.str k t2] := by simp
    obtain ⟨F3, N3⟩ := upd_news Z2.F Z2.N mk2 (fun b y hb e => s1.extBut b y hb e) hc2
    have T3 := tabs_upd (o' := seqObj "list" (kA.push (.str k t2)) c2) Z2.N Z2.T mk2 (by simp)
    refine wpAny_bind (listUpdate_at nk.1 rfl ?_ (by rw [sizeLine_eq]; omega) (Nat.le_trans (Nat.le_of_eq (Array.size_push ..)) (by rw [sizeLine_eq]; omega)))
    exact wpAny_pure ⟨rfl, _, kA.push (.str k t2), c2, ⟨F3, N3, T3, Z2.bare, Z2.os⟩, fun q hq n1 n2 => subX_upd _ (S2 _ (S' q hq n1 n2) n1 n2) (h0k q hq), .head _, subX_upd _ ma2 (Ne.symm hka), by rw [ea, ek]; exact kst_snoc hk⟩
  case done =>
    rintro s' ⟨news', kA, e, Z', S', mk', ma', hk⟩
    have hk' : StrsAre kA.toList kz := by
      have e3 : kz.take (0 + vs.length) = kz := List.take_of_length_le (by omega)
      rw [e3] at hk
      exact hk
    try dsimp only
    refine wpAny_bind (listItems_at (Z'.N _ mk').1 rfl ?_)
    exact kst_end Z' mk' ma' hka hk' hlen h2 h64 fun s3 news3 out c Z3 S3 m3 k3 => h s3 news3 out c Z3 (fun q hq n1 n2 => S3 _ (S' q hq n1 n2) (h0k q hq) (h0a q hq)) m3 k3

theorem Stand.push (Z : Stand g L m s₀ s news) (o : Obj) (hfree : o.isFreed = false := by rfl) : Stand g L m s₀ { s with heap := s.heap.push o } ((s.heap.objs.size, o) :: news) :=
  ⟨Z.F.push o, News.push Z.F Z.N o hfree, tabs_sub Z.T fun _ hq => .tail _ hq, Z.bare, Z.os⟩

theorem kst_sort {n : Nat} (Z : Stand g L m s₀ s news) (S0 : SubT news₀ news) (h0 : ∀ q ∈ news₀, q.1 < a) (ma : (a, seqObj "list" vs.toArray n) ∈ news)
    (hlen : kz.length = vs.length) (h2 : 2 ≤ vs.length) (h64 : vs.length < 64)
    (turn : KstTurn w A g L m s₀ news₀ vs kz f)
    (h : ∀ s' news' out c, Stand g L m s₀ s' news' → SubT news₀ news' → (a, seqObj "list" out c) ∈ news' → KstOut kz vs out.toList → P (.done (.ret .none)) s') :
    wpAny (model P0 w) A (ksk_tree a f false) P E s := by
  have ho := (Z.N _ ma).1
  have s1 := Heap.SameBut.update s.heap a (Obj.mapSeq fun _ => (#[] : Array Value))
  obtain ⟨e1, ho1⟩ : ∃ e1, (s.heap.update a (Obj.mapSeq fun _ => (#[] : Array Value))).get? a = some (seqObj "list" #[] e1) := ⟨_, get?_update_seq ho fun _ => #[]⟩
  obtain ⟨F1, N1⟩ := upd_news Z.F Z.N ma (fun b y hb e => s1.extBut b y hb e) ho1
  have Z1 : Stand g L m s₀ { s with heap := s.heap.update a (Obj.mapSeq fun _ => (#[] : Array Value)) } _ := ⟨F1, N1, tabs_upd (o' := seqObj "list" #[] e1) Z.N Z.T ma (by simp), Z.bare, Z.os⟩
  have Z2 := (Z1.push (seqObj "tuple" vs.toArray 0)).push (seqObj "list" #[] 0)
  have hsz : a < (s.heap.update a (Obj.mapSeq fun _ => (#[] : Array Value))).objs.size := Heap.lt_size ho1
  unfold ksk_tree
  refine wpAny_bind (listItems_at ho rfl ?_)
  refine wpAny_bind (listUpdate_at ho rfl ?_ (by rw [List.size_toArray, sizeLine_eq]; omega) (Nat.zero_le _))
  refine wpAny_bind (seqEpoch_at ho1 rfl ?_)
  refine wpAny_bind (wpAny_newTuple ?_ (by show vs.length ≤ _; rw [sizeLine_eq]; omega))
  refine wpAny_bind (wpAny_newList ?_ (Nat.zero_le _))
  refine wpAny_holding ?_
  have hk : a < ((s.heap.update a (Obj.mapSeq fun _ => (#[] : Array Value))).push (seqObj "tuple" vs.toArray 0)).objs.size := by rw [size_push']; exact Nat.lt_succ_of_lt hsz
  refine kst_rest (kS := ((s.heap.update a (Obj.mapSeq fun _ => (#[] : Array Value))).push (seqObj "tuple" vs.toArray 0)).objs.size) Z2
    (fun q hq n1 n2 => .tail _ (.tail _ (subX_upd _ (S0 q hq n1 n2) (Nat.ne_of_lt (h0 q hq))))) (fun q hq => Nat.ne_of_lt (Nat.lt_trans (h0 q hq) hk)) (fun q hq => Nat.ne_of_lt (h0 q hq)) (.head _) (.tail _ (.tail _ (.head _))) (Nat.ne_of_gt hk) hlen h2 h64 turn h

theorem kst_sorted {ln : Nat} {q : Addr} (Z : Stand g L m s₀ s news) (ml : (l, seqObj "list" vs.toArray ln) ∈ news) (hlen : kz.length = vs.length) (h2 : 2 ≤ vs.length) (h64 : vs.length < 64)
    (turn : KstTurn w A.in1.in1 g L m s₀ news vs kz (.ref q))
    (h : ∀ D s' news' out c, Stand g L m s₀ s' news' → SubT news news' → (D, seqObj "list" out c) ∈ news' → (∀ q ∈ news, q.1 < D) → KstOut kz vs out.toList → Q (.ref D) s') :
    wpAny (model P0 w) A (call (.builtin "sorted") [.ref l] [(Str.ofString "key", .ref q)]) Q E s := by
  refine call_function_entry_kw kind_sorted plain_sorted entry_sorted (ksk_s1 _ _) ?_
  unfold Builtin.«sorted»
  refine wpAny_bind (m := checkCount "sorted" 1 1 _) (wpAny_pure ?_)
  refine wpAny_bind (collect_list ⟨_, (Z.N _ ml).1, rfl, _, rfl⟩ ?_ (by rw [sizeLine_eq]; omega))
  refine wpAny_bind (wpAny_newList ?_ (by rw [sizeLine_eq]; omega))
  have hsz : ((s.heap.push (seqObj "list" #[] 0)).update s.heap.objs.size (Obj.mapSeq (· ++ vs.toArray))).objs.size = s.heap.objs.size + 1 := by
    rw [Heap.size_update, size_push']
  have Z1 := Z.push (seqObj "list" #[] 0)
  have s1 := Heap.SameBut.update (s.heap.push (seqObj "list" #[] 0)) s.heap.objs.size (Obj.mapSeq (· ++ vs.toArray))
  obtain ⟨c1, hc1⟩ : ∃ c1, ((s.heap.push (seqObj "list" #[] 0)).update s.heap.objs.size (Obj.mapSeq (· ++ vs.toArray))).get? s.heap.objs.size = some (seqObj "list" (#[] ++ vs.toArray) c1) := ⟨_, get?_update_seq (Z1.N _ (.head _)).1 (· ++ vs.toArray)⟩
  obtain ⟨F1, N1⟩ := upd_news Z1.F Z1.N (.head _) (fun b y hb e => s1.extBut b y hb e) hc1
  have Z2 : Stand g L m s₀ { s with heap := (s.heap.push (seqObj "list" #[] 0)).update s.heap.objs.size (Obj.mapSeq (· ++ vs.toArray)) } _ := ⟨F1, N1, tabs_upd (o' := seqObj "list" (#[] ++ vs.toArray) c1) Z1.N Z1.T (.head _) (by simp), Z.bare, Z.os⟩
  have Z3 := Z2.push (seqObj "list" vs.toArray 0)
  have lt : ∀ q ∈ news, q.1 < s.heap.objs.size := fun q hq => Heap.lt_size (Z.N q hq).1
  show wpAny _ _ _ _ _ { s with heap := ((s.heap.push (seqObj "list" #[] 0)).update s.heap.objs.size (Obj.mapSeq (· ++ vs.toArray))).push (seqObj "list" vs.toArray 0) }
  refine wpAny_bind (wpAny_holding (wpAny_call_entry_kw slot_list_sort ⟨_, (Z3.N _ (.head _)).1, rfl⟩ entry_list_sort ?body (ksk_l1 _ _)))
  case body =>
    rw [ksk_t1]
    refine kst_sort Z3 (news₀ := news) (fun q hq n1 n2 => .tail _ (subX_upd _ (.tail _ hq) (Nat.ne_of_lt (lt q hq)))) (fun q hq => by
      show q.1 < ((s.heap.push (seqObj "list" #[] 0)).update s.heap.objs.size (Obj.mapSeq (· ++ vs.toArray))).objs.size
      rw [hsz]; exact Nat.lt_succ_of_lt (lt q hq)) (.head _) hlen h2 h64 turn fun s' news' out c Z' S' m' k' => ⟨_, rfl, ?_⟩
    refine wpAny_pure ⟨_, rfl, h _ s' news' out c Z' S' m' (fun q hq => ?_) k'⟩
    show q.1 < ((s.heap.push (seqObj "list" #[] 0)).update s.heap.objs.size (Obj.mapSeq (· ++ vs.toArray))).objs.size
    rw [hsz]; exact Nat.lt_succ_of_lt (lt q hq)
end
end Mine
-- M19
namespace Mine
theorem fill19 : PySem.Challenge.rw_wr0007_01 = PySem.Challenge.rw_wr0007_01 ∧ hd.heap_39 = hd.heap_39 := by
  w_top off
  k_fill
  exact ⟨rfl, rfl⟩
local macro_rules | `(tactic| k_room) => `(tactic| ktr_room)
local macro_rules | `(tactic| k_units) => `(tactic| ktr_units)
section
variable {w : World} {A₀ A : Around} {base h₀ : Heap} {outer : List Env} {env : Env} {L : Addr} {m mg mb : Str → Option Value} {news : List (Addr × Obj)} {p : Program} {loose : List Str} {mean : ExcName → Option Value}
  {E : Value → Shared → Prop} {R : Result → Shared → Prop} {s : Shared}

abbrev lamQual : Str := "_law_taken.<locals>.<lambda>"
/-- the code table of _law_taken: its lambda -/
def LamTab (pos : Pos) (qual : Str) (news : List (Addr × Obj)) : Prop := ∃ ps, (142, tabObj ps) ∈ news ∧ TriplesOk ps.toList ∧
  (codeAmong pos ps.toList = none ∨ ∃ c' oc vs t, codeAmong pos ps.toList = some (.ref c') ∧ (c', oc) ∈ news ∧ c' ≠ 142 ∧ c' ≠ 70 ∧ c' ≠ 77 ∧ oc.data = .fields vs ∧ vs[1]? = some (.str qual t))
/-- the lambda as it stands in the ledger -/
def LamAt (qual : Str) (params : Arguments) (body : Expr) (scope : Scope) (news : List (Addr × Obj)) (f : Addr) : Prop :=
  ∃ c' oc vs t ctv pm, (f, kla_obj "<lambda>" qual params body scope [] pm c' ctv) ∈ news ∧ (c', oc) ∈ news ∧ c' ≠ 142 ∧ c' ≠ 70 ∧ c' ≠ 77 ∧ oc.data = .fields vs ∧ vs[1]? = some (.str qual t)

theorem LamTab.imp {pos : Pos} {qual : Str} {news' : List (Addr × Obj)} (S : ∀ q ∈ news, (q.1 = 142 ∨ (q.1 ≠ 142 ∧ q.1 ≠ 70 ∧ q.1 ≠ 77)) → q ∈ news') (X : LamTab pos qual news) : LamTab pos qual news' := by
  obtain ⟨ps, h1, h2, h3⟩ := X
  refine ⟨ps, S _ h1 (.inl rfl), h2, ?_⟩
  rcases h3 with h3 | ⟨c', oc, vs, t, a, b, c, d, e, f, i⟩
  · exact .inl h3
  · exact .inr ⟨c', oc, vs, t, a, S _ b (.inr ⟨c, d, e⟩), c, d, e, f, i⟩
theorem LamTab.subT {pos : Pos} {qual : Str} {news' : List (Addr × Obj)} (S : SubT news news') (X : LamTab pos qual news) : LamTab pos qual news' :=
  X.imp fun q hq c => S q hq (by rcases c with c | c; · rw [c]; decide
                                 · exact c.2.1) (by rcases c with c | c; · rw [c]; decide
                                                    · exact c.2.2)
theorem LamAt.subT {qual : Str} {params : Arguments} {body : Expr} {scope : Scope} {f : Addr} {news' : List (Addr × Obj)} {h : Heap} (N : News h₀ L h news) (T : Tabs news) (S : SubT news news') (X : LamAt qual params body scope news f) : LamAt qual params body scope news' f := by
  obtain ⟨c', oc, vs, t, ctv, pm, h1, h2, h3, h4, h5, h6, h7⟩ := X
  have := acc_not N T h1 (by simp)
  exact ⟨c', oc, vs, t, ctv, pm, S _ h1 this.1 this.2, S _ h2 h4 h5, h3, h4, h5, h6, h7⟩

theorem LamTab.subX {pos : Pos} {qual : Str} {news' : List (Addr × Obj)} {h : Heap} {x : Addr} {ox : Obj} (N : News h₀ L h news) (hx : (x, ox) ∈ news) (S : ∀ q ∈ news, q.1 ≠ x → q ∈ news') (h142 : x ≠ 142) (hd : ∀ (vs : Array Value) t, ox.data = .fields vs → vs[1]? = some (Value.str qual t) → False) (X : LamTab pos qual news) : LamTab pos qual news' := by
  obtain ⟨ps, q1, q2, q3⟩ := X
  refine ⟨ps, S _ q1 (Ne.symm h142), q2, q3.imp id ?_⟩
  rintro ⟨c', oc, us, t, a, b, c, d, e, f, i⟩
  refine ⟨c', oc, us, t, a, S _ b (fun q => ?_), c, d, e, f, i⟩
  have e1 := (N _ b).1
  have e2 := (N _ hx).1
  dsimp only at e1 e2 q
  rw [q, e2] at e1
  cases e1
  exact hd _ _ f i
theorem LamTab.sub {pos : Pos} {qual : Str} {news' : List (Addr × Obj)} (S : ∀ q ∈ news, q ∈ news') (X : LamTab pos qual news) : LamTab pos qual news' := X.imp fun q hq _ => S q hq

theorem hd146 {P : Params} : codeHdIn (hd.heap_39 P) 146 142 = true := by kernel_rfl

theorem lam_make {M : Model} {g : Heap} {L' : Addr} {cs : Scope} {params : Arguments} {body : Expr} {scope : Scope} {pos : Pos} {Q : Value → Shared → Prop} (F : Fr g L' s.heap m) (N : News g L' s.heap news) (T : Top p loose mean mg mb g) (X₀ : (KK w).In g)
    (LT : LamTab pos (Str.ofString "_law_taken.<locals>." ++ "<lambda>") news) (hT : Tabs news) (hdef : defaultsOf params (envOf "_law_taken" cs L' 147 (.ref 146)) = ([], []))
    (hcl : closureFor scope (envOf "_law_taken" cs L' 147 (.ref 146)) = pure [])
    (h : ∀ f h' tk news', Fr g L' h' m → News g L' h' news' → SubX 142 news news' → LamTab pos (Str.ofString "_law_taken.<locals>." ++ "<lambda>") news' → LamAt (Str.ofString "_law_taken.<locals>." ++ "<lambda>") params body scope news' f → (∀ q ∈ news, q.1 < f) → Q (.ref f) { s with heap := h', toks := tk }) :
    wpAny M A (eval (.Lambda params body scope pos) (envOf "_law_taken" cs L' 147 (.ref 146))) Q E s := by
  refine kla_eval hdef ?_
  obtain ⟨ps, hm0, ht, hc⟩ := LT
  have hm := N _ hm0
  have C := codeHd_of_K X₀ hd146
  have hgs := T.g.keeps F.keep
  obtain ⟨bm, ob, b1, b2, b3, b4, b5, b6⟩ := T.bmain
  have hgP : mainGlobals ≠ 142 := by decide
  have hbP : bm ≠ 142 := fun q => by
    have e := F.keep _ _ b3
    rw [q, hm.1] at e; cases e; cases b4
  have hbG : bm ≠ mainGlobals := fun q => by
    obtain ⟨o, es, ep, e, hd, _⟩ := T.g
    rw [q, e] at b3; cases b3; rw [hd] at b6; cases b6
  have hLs : L' < s.heap.objs.size := F.ns.lt
  have fresh : ∀ b, L' < b → g.get? b = none := fun b hb => Heap.get?_none_of_le (Nat.le_trans F.above (Nat.le_of_lt hb))
  obtain ⟨⟨o70, m70, -⟩, ⟨o77, m77, -⟩⟩ := hT
  have l70 : 70 < s.heap.objs.size := Heap.lt_size (N _ m70).1
  have l77 : 77 < s.heap.objs.size := Heap.lt_size (N _ m77).1
  have l142 : 142 < s.heap.objs.size := Heap.lt_size hm.1
  rcases hc with hnf | ⟨c', oc, vs, t, hf, mc, n1, n2, n3, hd, hv⟩
  · refine kla_makeFunction (mg := mg) hcl rfl hgs rfl (C.keeps F.keep) hm.1 ht hnf hgP ⟨bm, ob, b1, b2, hbG, hbP, F.keep _ _ b3, b4, b5, b6⟩ fun c' ctv h' tk hx hge hlt hrec htb => ?_
    obtain ⟨c₂, oc, vs, t, e2, hoc, hd, hv⟩ := hrec
    cases e2
    have hLc : L' < c' := Nat.lt_of_lt_of_le hLs hge
    obtain ⟨F1, N1⟩ := upd_news F N hm0 (fun b y hb e => hx b y hb e) htb
    have Nc : News g L' h' ((c', oc) :: (142, tabObj (ps ++ #[rawInt pos.line, rawInt pos.col, .ref c'])) :: news.filter (fun p => decide (p.1 ≠ 142))) := fun q hq => by
      rcases List.mem_cons.mp hq with rfl | hq
      · exact ⟨hoc, Nat.ne_of_gt hLc, fresh _ hLc⟩
      · exact N1 q hq
    have N2 := News.push F1 Nc (kla_obj "<lambda>" (Str.ofString "_law_taken.<locals>." ++ "<lambda>") params body scope [] ((mg "__name__").getD .none) c' ctv)
    have e1 : (ps ++ #[rawInt pos.line, rawInt pos.col, Value.ref c']).toList = ps.toList ++ [rawInt pos.line, rawInt pos.col, .ref c'] := by simp
    have k1 : c' ≠ 142 := Nat.ne_of_gt (Nat.lt_of_lt_of_le l142 hge)
    have k2 : c' ≠ 70 := Nat.ne_of_gt (Nat.lt_of_lt_of_le l70 hge)
    have k3 : c' ≠ 77 := Nat.ne_of_gt (Nat.lt_of_lt_of_le l77 hge)
    refine h _ _ tk _ (F1.push _) N2 (fun q hq hne => .tail _ (.tail _ (subX_upd q hq hne))) ⟨_, .tail _ (.tail _ (.head _)), by rw [e1]; exact TriplesOk_snoc _ _ _ _ ht, .inr ⟨c', oc, vs, t, by rw [e1]; exact codeAmong_snoc _ ht hnf, .tail _ (.head _), k1, k2, k3, hd, hv⟩⟩
      ⟨c', oc, vs, t, ctv, _, .head _, .tail _ (.head _), k1, k2, k3, hd, hv⟩ (fun q hq => Nat.lt_of_lt_of_le (Heap.lt_size (N q hq).1) (Nat.le_trans hge (Nat.le_of_lt hlt)))
  · refine kla_makeFunctionHit (mg := mg) hcl rfl hgs rfl (C.keeps F.keep) hm.1 ht hf ⟨bm, ob, b1, b2, hbG, hbP, F.keep _ _ b3, b4, b5, b6⟩ fun ctv h' tk hk hsz => ?_
    have F1 : Fr g L' h' m := F.keeps hk
    have N1 : News g L' h' news := fun q hq => ⟨hk _ _ (N q hq).1, (N q hq).2⟩
    have N2 := News.push F1 N1 (kla_obj "<lambda>" (Str.ofString "_law_taken.<locals>." ++ "<lambda>") params body scope [] ((mg "__name__").getD .none) c' ctv)
    exact h _ _ tk _ (F1.push _) N2 (fun q hq _ => .tail _ hq) ⟨ps, .tail _ hm0, ht, .inr ⟨c', oc, vs, t, hf, .tail _ mc, n1, n2, n3, hd, hv⟩⟩ ⟨c', oc, vs, t, ctv, _, .head _, .tail _ mc, n1, n2, n3, hd, hv⟩
      (fun q hq => Nat.lt_of_lt_of_le (Heap.lt_size (N q hq).1) hsz)
end
end Mine
-- M20
namespace Mine
theorem text_mono : ∀ a, a < 26 → ∀ b, b < 26 → ¬ ((rowText b).cps.toList < (rowText a).cps.toList) → a ≤ b := by decide +kernel

/-- one column: the rows of the greatest sizes give a mark each -/
def Turn (rs : List Addr) (c : Int) (sz : Addr → Nat) (t : Nat) (sz' : Addr → Nat) : Prop :=
  ∃ ord : List Addr, ord.Perm rs ∧ ord.Pairwise (fun a b => sz a ≤ sz b) ∧ t = ((ord.drop (4 - min 4 c.toNat)).filter (fun r => decide (0 < sz r))).length ∧ sz' = fun r => if r ∈ ord.drop (4 - min 4 c.toNat) then sz r - 1 else sz r
inductive Run (rs : List Addr) : List Int → (Addr → Nat) → Nat → (Addr → Nat) → Prop where
  | nil (sz : Addr → Nat) : Run rs [] sz 0 sz
  | snoc {cs : List Int} {c : Int} {sz sz1 sz2 : Addr → Nat} {n t : Nat} : Run rs cs sz n sz1 → Turn rs c sz1 t sz2 → Run rs (cs ++ [c]) sz (n + t) sz2

theorem order_of {rs : List Addr} {sz : Addr → Nat} {out : List Value} (hz : ∀ r ∈ rs, sz r < 26) (h : KstOut ((rs.map sz).map rowText) (rs.map Value.ref) out) :
    ∃ ord : List Addr, ord.Perm rs ∧ out = ord.map Value.ref ∧ ord.Pairwise (fun a b => sz a ≤ sz b) := by
  obtain ⟨ps, hp, rfl, hs⟩ := h
  have ez : ((rs.map sz).map rowText).zip (rs.map Value.ref) = rs.map (fun r => (rowText (sz r), Value.ref r)) := by
    rw [List.map_map, List.zip_map']
    rfl
  rw [ez] at hp
  let inv : Str × Value → Addr := fun p => match p.2 with | .ref a => a | _ => 0
  have back : ∀ p ∈ ps, (rowText (sz (inv p)), Value.ref (inv p)) = p := fun p hp' => by
    obtain ⟨r, -, rfl⟩ := List.mem_map.mp (hp.mem_iff.mp hp')
    rfl
  have e1 : (ps.map inv).map (fun r => (rowText (sz r), Value.ref r)) = ps := by
    rw [List.map_map]
    conv => rhs; rw [← List.map_id ps]
    exact List.map_congr_left fun p hp' => back p hp'
  have hperm : (ps.map inv).Perm rs := by
    have := hp.map inv
    rw [List.map_map] at this
    have e2 : rs.map (inv ∘ fun r => (rowText (sz r), Value.ref r)) = rs := by
      conv => rhs; rw [← List.map_id rs]
      exact List.map_congr_left fun r _ => rfl
    rwa [e2] at this
  refine ⟨ps.map inv, hperm, ?_, ?_⟩
  · rw [List.map_map]
    exact List.map_congr_left fun p hp' => by
      have := back p hp'
      exact (congrArg Prod.snd this).symm
  · rw [← e1, List.pairwise_map] at hs
    refine hs.imp_of_mem fun {a b} ha hb hab => ?_
    exact text_mono _ (hz a (hperm.mem_iff.mp ha)) _ (hz b (hperm.mem_iff.mp hb)) hab
theorem Turn.le {rs : List Addr} {c : Int} {sz sz' : Addr → Nat} {t : Nat} (h : Turn rs c sz t sz') (r : Addr) : sz' r ≤ sz r := by
  obtain ⟨ord, -, -, -, rfl⟩ := h
  dsimp only
  split <;> omega

theorem slice_from {w : World} {A : Around} {E : Value → Shared → Prop} {s : Shared} {g : Heap} {L l : Addr} {m : Str → Option Value} {news : List (Addr × Obj)} {value slice : PySem.Expr} {its : Array Value} {n : Nat} {x : Int} {t : Tok} {Q : Value → Shared → Prop}
    (F : Fr g L s.heap m) (N : News g L s.heap news) (hl : (l, listOf its n) ∈ news) (hx : 0 ≤ x) (hz : its.size ≤ sizeLine)
    (h : ∀ D h', Fr g L h' m → News g L h' ((D, listOf (its.toList.drop x.toNat).toArray 0) :: news) → (∀ p ∈ news, p.1 < D) → Q (.ref D) { s with heap := h' })
    (hs : subscripted slice false (.ref l) (.ref s.heap.objs.size) = operate [.ref s.heap.objs.size, .ref l] (getItem (.ref l) (.ref s.heap.objs.size))) (ht : ∀ r, letTemporaryGo value (.ref l) r = pure ()) :
    wpAny (model P0 w) A (subscriptTail value slice (.ref l) (.ref s.heap.objs.size)) Q E { s with heap := s.heap.push { cls := .type "slice", data := .fields #[.int x t, .none, .none] } } := by
  refine kmk_slice F N ⟨_, (N _ hl).1, rfl, _, rfl⟩ (.int x t) .none (fun D h' F' N' l1 => h D h' F' ?_ l1) hs ht hz
  have e : sliceBounds (some x) none none its.size = (((min x.toNat its.size : Nat) : Int), ((its.size : Nat) : Int), 1) := by
    simp only [sliceBounds, Option.getD_none, show (1 : Int) > 0 by decide, if_true, if_neg (show ¬ (x < 0) by omega)]
    congr 1
    omega
  rw [kmk_pick_nat _ e] at N'
  have e2 : (its.toList.drop (min x.toNat its.size)).take (its.size - min x.toNat its.size) = its.toList.drop x.toNat := by
    rw [← Array.length_toList, kmk_drop_min, List.take_of_length_le]
    rw [List.length_drop]
    omega
  rw [e2] at N'
  exact N'
theorem slice_mid {w : World} {A : Around} {E : Value → Shared → Prop} {s : Shared} {g : Heap} {L l : Addr} {m : Str → Option Value} {news : List (Addr × Obj)} {value slice : PySem.Expr} {its : Array Value} {n : Nat} {x y : Int} {t t' : Tok} {Q : Value → Shared → Prop}
    (F : Fr g L s.heap m) (N : News g L s.heap news) (hl : (l, listOf its n) ∈ news) (hx : 0 ≤ x) (hy : 0 ≤ y) (hz : its.size ≤ sizeLine)
    (h : ∀ D h', Fr g L h' m → News g L h' ((D, listOf ((its.toList.drop x.toNat).take (min y.toNat its.size - x.toNat)).toArray 0) :: news) → (∀ p ∈ news, p.1 < D) → Q (.ref D) { s with heap := h' })
    (hs : subscripted slice false (.ref l) (.ref s.heap.objs.size) = operate [.ref s.heap.objs.size, .ref l] (getItem (.ref l) (.ref s.heap.objs.size))) (ht : ∀ r, letTemporaryGo value (.ref l) r = pure ()) :
    wpAny (model P0 w) A (subscriptTail value slice (.ref l) (.ref s.heap.objs.size)) Q E { s with heap := s.heap.push { cls := .type "slice", data := .fields #[.int x t, .int y t', .none] } } := by
  refine kmk_slice F N ⟨_, (N _ hl).1, rfl, _, rfl⟩ (.int x t) (.int y t') (fun D h' F' N' l1 => h D h' F' ?_ l1) hs ht hz
  have e : sliceBounds (some x) (some y) none its.size = (((min x.toNat its.size : Nat) : Int), ((min y.toNat its.size : Nat) : Int), 1) := by
    simp only [sliceBounds, Option.getD_none, show (1 : Int) > 0 by decide, if_true, if_neg (show ¬ (x < 0) by omega), if_neg (show ¬ (y < 0) by omega)]
    congr 1
    · omega
    · congr 1
      omega
  rw [kmk_pick_nat _ e] at N'
  have e2 : (its.toList.drop (min x.toNat its.size)).take (min y.toNat its.size - min x.toNat its.size) = (its.toList.drop x.toNat).take (min y.toNat its.size - x.toNat) := by
    rw [← Array.length_toList, kmk_drop_min]
    by_cases hx' : x.toNat ≤ its.toList.length
    · rw [Nat.min_eq_left hx']
    · rw [List.drop_of_length_le (by omega)]; simp
  rw [e2] at N'
  exact N'
end Mine
-- Q1
namespace Mine
theorem min_ext {a b : Nat} (h : ∀ x, x ≤ a ↔ x ≤ b) : a = b := Nat.le_antisymm ((h a).mp (Nat.le_refl _)) ((h b).mpr (Nat.le_refl _))
/-- what k columns can take of these wishes -/
def fk (k : Nat) (ws : List Nat) : Nat := (ws.map (fun x => min x k)).sum
/-- how many wish for more than k -/
def hk (k : Nat) (ws : List Nat) : Nat := (ws.filter (fun x => decide (k < x))).length
theorem fk_cons (k a : Nat) (ws : List Nat) : fk k (a :: ws) = min a k + fk k ws := by simp [fk]
theorem fk_app (k : Nat) (xs ys : List Nat) : fk k (xs ++ ys) = fk k xs + fk k ys := by simp [fk]
theorem hk_app (k : Nat) (xs ys : List Nat) : hk k (xs ++ ys) = hk k xs + hk k ys := by simp [hk]
theorem hk_cons (k a : Nat) (ws : List Nat) : hk k (a :: ws) = (if k < a then 1 else 0) + hk k ws := by
  unfold hk
  rw [List.filter_cons]
  by_cases h : k < a
  · rw [if_pos (decide_eq_true h), if_pos h, List.length_cons, Nat.add_comm]
  · rw [if_neg (by simpa using h), if_neg h, Nat.zero_add]
theorem hk_le (k : Nat) (ws : List Nat) : hk k ws ≤ ws.length := List.length_filter_le _ _
theorem min_succ (a k : Nat) : min a (k + 1) = min a k + (if k < a then 1 else 0) := by
  by_cases h : k < a
  · rw [if_pos h, Nat.min_eq_right h, Nat.min_eq_right (Nat.le_of_lt h)]
  · rw [if_neg h, Nat.min_eq_left (by omega), Nat.min_eq_left (by omega), Nat.add_zero]
theorem fk_succ (k : Nat) (ws : List Nat) : fk (k + 1) ws = fk k ws + hk k ws := by
  induction ws with
  | nil => rfl
  | cons a ws ih => rw [fk_cons, fk_cons, hk_cons, ih, min_succ, Nat.add_add_add_comm]
theorem min_pred (a k : Nat) : (if 0 < a then 1 else 0) + min (a - 1) k = min a k + (if k < a then 1 else 0) := by
  rw [← min_succ]
  cases a with
  | zero => simp
  | succ a => rw [if_pos (Nat.succ_pos _), Nat.add_sub_cancel, Nat.add_comm, Nat.add_min_add_right]
theorem take_one (k : Nat) (sel : List Nat) : (sel.filter (fun x => decide (0 < x))).length + fk k (sel.map (· - 1)) = fk k sel + hk k sel := by
  show hk 0 sel + _ = _
  induction sel with
  | nil => rfl
  | cons a ws ih => rw [List.map_cons, fk_cons, fk_cons, hk_cons, hk_cons, Nat.add_add_add_comm, ih, min_pred, Nat.add_add_add_comm]
theorem hk_full (k : Nat) (sel : List Nat) (h : ∀ b ∈ sel, k < b) : hk k sel = sel.length := by
  unfold hk
  rw [List.filter_eq_self.mpr (fun b hb => by simpa using h b hb)]
theorem hk_none (k : Nat) (pre : List Nat) (h : ∀ a ∈ pre, a ≤ k) : hk k pre = 0 := by
  unfold hk
  rw [List.filter_eq_nil_iff.mpr (fun b hb => by simpa using h b hb)]
  rfl
/-- how many of the chosen wish for more than k -/
theorem hk_sel (pre sel : List Nat) (k : Nat) (h : ∀ a ∈ pre, ∀ b ∈ sel, a ≤ b) : hk k sel = min sel.length (hk k (pre ++ sel)) := by
  rw [hk_app]
  by_cases hs : ∀ b ∈ sel, k < b
  · rw [hk_full k sel hs, Nat.min_eq_left (Nat.le_add_left _ _)]
  · obtain ⟨b, hb⟩ := Classical.not_forall.mp hs
    obtain ⟨hb1, hb2⟩ := Classical.not_imp.mp hb
    rw [hk_none k pre (fun a ha => Nat.le_trans (h a ha b hb1) (Nat.le_of_not_lt hb2)), Nat.zero_add, Nat.min_eq_right (hk_le k sel)]
theorem fk_perm {xs ys : List Nat} (k : Nat) (h : xs.Perm ys) : fk k xs = fk k ys := by
  unfold fk
  exact (h.map _).sum_nat
/-- one column, on numbers -/
theorem turn_room (pre sel : List Nat) (k c : Nat) (h : ∀ a ∈ pre, ∀ b ∈ sel, a ≤ b) (h4 : (pre ++ sel).length = 4) (hc : sel.length = min 4 c) :
    (sel.filter (fun x => decide (0 < x))).length + fk k (pre ++ sel.map (· - 1)) = min (c + fk k (pre ++ sel)) (fk (k + 1) (pre ++ sel)) := by
  have h1 := take_one k sel
  have h2 := hk_sel pre sel k h
  have h3 := hk_le k (pre ++ sel)
  rw [h4] at h3
  rw [hc, Nat.min_comm 4 c, Nat.min_assoc, Nat.min_eq_right h3] at h2
  rw [fk_succ, fk_app, Nat.add_left_comm, h1, h2, ← Nat.add_assoc, ← fk_app, Nat.add_comm c, Nat.add_min_add_left]
def op (φ : Nat → Nat) (c : Nat) : Nat → Nat := fun k => min (c + φ k) (φ (k + 1))
theorem op_comm (φ : Nat → Nat) (c d : Nat) : op (op φ c) d = op (op φ d) c := by
  funext k
  show min (d + min (c + φ k) (φ (k + 1))) (min (c + φ (k + 1)) (φ (k + 1 + 1))) = min (c + min (d + φ k) (φ (k + 1))) (min (d + φ (k + 1)) (φ (k + 1 + 1)))
  rw [← Nat.add_min_add_left, ← Nat.add_min_add_left, Nat.add_left_comm d c, Nat.min_assoc, Nat.min_assoc, Nat.min_left_comm (d + φ (k + 1))]
theorem op_perm {cs ds : List Nat} (h : cs.Perm ds) : ∀ φ, cs.foldl op φ = ds.foldl op φ := by
  induction h with
  | nil => intro φ; rfl
  | cons a _ ih => intro φ; exact ih _
  | swap a b l => intro φ; simp only [List.foldl_cons]; rw [op_comm]
  | trans _ _ h1 h2 => intro φ; exact (h1 φ).trans (h2 φ)
theorem op_four (φ : Nat → Nat) (a b c d : Nat) (h1 : a ≤ b) (h2 : b ≤ c) (h3 : c ≤ d) : ([a, b, c, d].foldl op φ) 0 = min (min (min (min (φ 0 + (a + b + c + d)) (φ 1 + (a + b + c))) (φ 2 + (a + b))) (φ 3 + a)) (φ 4) := by
  have e1 : ∀ k, op φ a k = min (a + φ k) (φ (k + 1)) := fun _ => rfl
  have e2 : ∀ k, op (op φ a) b k = min (min (φ k + (a + b)) (φ (k + 1) + a)) (φ (k + 2)) := fun k => by
    show min (b + op φ a k) (op φ a (k + 1)) = _
    rw [e1, e1, show k + 1 + 1 = k + 2 from rfl, ← Nat.add_min_add_left]
    apply min_ext
    intro x
    simp only [Nat.le_min]
    exact ⟨fun ⟨⟨q1, q2⟩, q3, q4⟩ => ⟨⟨by omega, by omega⟩, q4⟩, fun ⟨⟨q1, q2⟩, q3⟩ => ⟨⟨by omega, by omega⟩, by omega, q3⟩⟩
  have e3 : ∀ k, op (op (op φ a) b) c k = min (min (min (φ k + (a + b + c)) (φ (k + 1) + (a + b))) (φ (k + 2) + a)) (φ (k + 3)) := fun k => by
    show min (c + op (op φ a) b k) (op (op φ a) b (k + 1)) = _
    rw [e2, e2, show k + 1 + 1 = k + 2 from rfl, show k + 1 + 2 = k + 3 from rfl, ← Nat.add_min_add_left, ← Nat.add_min_add_left]
    apply min_ext
    intro x
    simp only [Nat.le_min]
    exact ⟨fun ⟨⟨⟨q1, q2⟩, q3⟩, ⟨q4, q5⟩, q6⟩ => ⟨⟨⟨by omega, by omega⟩, by omega⟩, q6⟩, fun ⟨⟨⟨q1, q2⟩, q3⟩, q4⟩ => ⟨⟨⟨by omega, by omega⟩, by omega⟩, ⟨by omega, by omega⟩, q4⟩⟩
  show min (d + op (op (op φ a) b) c 0) (op (op (op φ a) b) c (0 + 1)) = _
  rw [e3, e3, ← Nat.add_min_add_left, ← Nat.add_min_add_left, ← Nat.add_min_add_left]
  simp only [Nat.zero_add, Nat.reduceAdd]
  apply min_ext
  intro x
  simp only [Nat.le_min]
  exact ⟨fun ⟨⟨⟨⟨q1, q2⟩, q3⟩, q4⟩, ⟨⟨q5, q6⟩, q7⟩, q8⟩ => ⟨⟨⟨⟨by omega, by omega⟩, by omega⟩, by omega⟩, q8⟩, fun ⟨⟨⟨⟨q1, q2⟩, q3⟩, q4⟩, q5⟩ => ⟨⟨⟨⟨by omega, by omega⟩, by omega⟩, by omega⟩, ⟨⟨by omega, by omega⟩, by omega⟩, q5⟩⟩
end Mine
-- Q2
namespace Mine
theorem turn_law {rs : List Addr} {c : Int} {sz sz' : Addr → Nat} {t : Nat} (h : Turn rs c sz t sz') (hn : rs.Nodup) (h4 : rs.length = 4) (k : Nat) :
    t + fk k (rs.map sz') = min (c.toNat + fk k (rs.map sz)) (fk (k + 1) (rs.map sz)) := by
  obtain ⟨ord, hp, hpw, ht, hs⟩ := h
  have hno : ord.Nodup := hp.nodup_iff.mpr hn
  have hlen : ord.length = 4 := hp.length_eq.trans h4
  generalize hd : 4 - min 4 c.toNat = d at ht hs
  rw [← fk_perm k (hp.map sz'), ← fk_perm k (hp.map sz), ← fk_perm (k + 1) (hp.map sz)]
  have eo : ord.take d ++ ord.drop d = ord := List.take_append_drop d ord
  have hdis : ∀ a ∈ ord.take d, a ∉ ord.drop d := fun a ha hb => by
    rw [← eo] at hno
    exact (List.nodup_append.mp hno).2.2 a ha a hb rfl
  have hle : ∀ a ∈ ord.take d, ∀ b ∈ ord.drop d, sz a ≤ sz b := by
    rw [← eo] at hpw
    exact (List.pairwise_append.mp hpw).2.2
  have e1 : ord.map sz = (ord.take d).map sz ++ (ord.drop d).map sz := by rw [← List.map_append, eo]
  have e2 : ord.map sz' = (ord.take d).map sz ++ ((ord.drop d).map sz).map (· - 1) := by
    have : ord.map sz' = (ord.take d).map sz' ++ (ord.drop d).map sz' := by rw [← List.map_append, eo]
    rw [this, List.map_map]
    congr 1
    · exact List.map_congr_left fun a ha => by rw [hs]; exact if_neg (hdis a ha)
    · exact List.map_congr_left fun a ha => by rw [hs]; exact if_pos ha
  have e3 : t = (((ord.drop d).map sz).filter (fun x => decide (0 < x))).length := by
    rw [ht, List.filter_map, List.length_map]
    rfl
  rw [e1, e2, e3]
  refine turn_room _ _ k c.toNat ?_ ?_ ?_
  · intro a ha b hb
    obtain ⟨a', ha', rfl⟩ := List.mem_map.mp ha
    obtain ⟨b', hb', rfl⟩ := List.mem_map.mp hb
    exact hle a' ha' b' hb'
  · rw [← e1, List.length_map, hlen]
  · rw [List.length_map, List.length_drop, hlen]; omega
theorem run_law {rs : List Addr} {cs : List Int} {sz sz' : Addr → Nat} {n : Nat} (h : Run rs cs sz n sz') (hn : rs.Nodup) (h4 : rs.length = 4) :
    ∀ k, n + fk k (rs.map sz') = (cs.map Int.toNat).foldl op (fun j => fk j (rs.map sz)) k := by
  induction h with
  | nil sz => intro k; simp
  | snoc hr ht ih =>
    intro k
    rw [List.map_append, List.foldl_append]
    have i1 := ih k
    have i2 := ih (k + 1)
    have i3 := turn_law ht hn h4 k
    show _ = min (_ + List.foldl op _ _ k) (List.foldl op _ _ (k + 1))
    rw [← i1, ← i2, Nat.add_assoc, i3, ← Nat.add_min_add_left, Nat.add_left_comm]
theorem fk_zero (ws : List Nat) : fk 0 ws = 0 := by
  induction ws with
  | nil => rfl
  | cons a ws ih => rw [fk_cons, ih]; simp
theorem fk_all (k : Nat) (ws : List Nat) (h : ∀ a ∈ ws, a ≤ k) : fk k ws = ws.sum := by
  induction ws with
  | nil => rfl
  | cons a ws ih =>
    rw [fk_cons, ih (fun b hb => h b (.tail _ hb)), List.sum_cons]
    have := h a (.head _)
    omega
theorem cast_min (a b : Nat) : ((min a b : Nat) : Int) = min (a : Int) (b : Int) := by omega
/-- how many marks are taken -/
theorem taken_is {rs : List Addr} {cs : List Int} {sz sz' : Addr → Nat} {n : Nat} {a b c d : Int} (h : Run rs cs sz n sz') (hn : rs.Nodup) (h4 : rs.length = 4) (hp : List.Perm [a, b, c, d] cs) (h0 : 0 ≤ a) (h1 : a ≤ b) (h2 : b ≤ c) (h3 : c ≤ d) :
    (n : Int) = min (min (min (min ((fk 0 (rs.map sz) : Nat) + (a + b + c + d)) ((fk 1 (rs.map sz) : Nat) + (a + b + c))) ((fk 2 (rs.map sz) : Nat) + (a + b))) ((fk 3 (rs.map sz) : Nat) + a)) (fk 4 (rs.map sz) : Nat) := by
  have e := run_law h hn h4 0
  rw [fk_zero, ← op_perm (hp.map Int.toNat)] at e
  simp only [List.map_cons, List.map_nil] at e
  rw [op_four _ _ _ _ _ (Int.toNat_le_toNat h1) (Int.toNat_le_toNat h2) (Int.toNat_le_toNat h3), Nat.add_zero] at e
  obtain ⟨a', rfl⟩ : ∃ k : Nat, a = k := ⟨a.toNat, (Int.toNat_of_nonneg h0).symm⟩
  obtain ⟨b', rfl⟩ : ∃ k : Nat, b = k := ⟨b.toNat, (Int.toNat_of_nonneg (Int.le_trans h0 h1)).symm⟩
  obtain ⟨c', rfl⟩ : ∃ k : Nat, c = k := ⟨c.toNat, (Int.toNat_of_nonneg (Int.le_trans (Int.le_trans h0 h1) h2)).symm⟩
  obtain ⟨d', rfl⟩ : ∃ k : Nat, d = k := ⟨d.toNat, (Int.toNat_of_nonneg (Int.le_trans (Int.le_trans (Int.le_trans h0 h1) h2) h3)).symm⟩
  simp only [Int.toNat_natCast] at e
  rw [e]
  simp only [cast_min, Int.natCast_add]
theorem mem_le : ∀ (ws : List Nat) a, a ∈ ws → a ≤ ws.sum
  | b :: ws, a, h => by
    rw [List.sum_cons]
    rcases List.mem_cons.mp h with rfl | h
    · omega
    · have := mem_le ws a h; omega
/-- what is left -/
theorem left_is {rs : List Addr} {cs : List Int} {sz sz' : Addr → Nat} {n : Nat} (h : Run rs cs sz n sz') (hn : rs.Nodup) (h4 : rs.length = 4) : n + (rs.map sz').sum = (rs.map sz).sum := by
  induction h with
  | nil sz => simp
  | snoc hr ht ih =>
    rename_i cs c sz sz1 sz2 n t
    let K := (rs.map sz1).sum + (rs.map sz2).sum
    have h2 := turn_law ht hn h4 K
    rw [fk_all K _ (fun a ha => Nat.le_trans (mem_le _ a ha) (by omega)), fk_all K _ (fun a ha => Nat.le_trans (mem_le _ a ha) (by omega)), fk_all (K + 1) _ (fun a ha => Nat.le_trans (mem_le _ a ha) (by omega))] at h2
    omega
end Mine
-- M21
namespace Mine
theorem fill21 : PySem.Challenge.rw_wr0007_01 = PySem.Challenge.rw_wr0007_01 ∧ hd.heap_39 = hd.heap_39 := by
  w_top off
  k_fill
  exact ⟨rfl, rfl⟩
local macro_rules | `(tactic| k_room) => `(tactic| ktr_room)
local macro_rules | `(tactic| k_units) => `(tactic| ktr_units)
local macro_rules | `(tactic| walk_at "getMethod ref") => `(tactic| ((with_reducible show wpAny _ _ (getMethod (Value.ref _) (Str.ofString "is_onlyws") _) _ _ _); refine stop_it ?_))
local macro_rules | `(tactic| walk_at "getMethod ref") => `(tactic| ((with_reducible show wpAny _ _ (getMethod (Value.ref _) (Str.ofString "pop") _) _ _ _); refine stop_it ?_))
local macro_rules | `(tactic| walk_at "getMethod ref") => `(tactic| ((with_reducible show wpAny _ _ (getMethod (Value.ref _) (Str.ofString "part_count") _) _ _ _); refine stop_it ?_))
local macro_rules | `(tactic| walk_at "call builtin:list.append") => `(tactic| refine stop_it ?_)
local macro_rules | `(tactic| walk_at "call builtin:sorted") => `(tactic| refine stop_it ?_)
local macro_rules | `(tactic| walk_at "eval Lambda") => `(tactic| refine stop_it ?_)
local macro_rules | `(tactic| walk_at "subscriptTail Name Slice ref ref") => `(tactic| refine stop_it ?_)
local macro_rules | `(tactic| walk_at "exec For Name Subscript cons nil") => `(tactic| refine stop_it ?_)
local macro_rules | `(tactic| walk_at "compareOp Eq ref ref") => `(tactic| refine stop_it ?_)
section
variable {w : World} {A₀ A : Around} {base h₀ : Heap} {outer : List Env} {env : Env} {L : Addr} {m mg mb : Str → Option Value} {news : List (Addr × Obj)} {p : Program} {loose : List Str} {mean : ExcName → Option Value}
  {E : Value → Shared → Prop} {R : Result → Shared → Prop} {s : Shared}
/-- lists and cells -/
abbrev LC (o : Obj) : Prop := o.cls = .type "list" ∨ ∃ v, o.data = .cell v
abbrev SubL (news news' : List (Addr × Obj)) : Prop := ∀ q ∈ news, LC q.2 → q ∈ news'
theorem ne_lc {h : Heap} {q : Addr × Obj} {x : Addr} {ox : Obj} (N : News h₀ L h news) (hq : q ∈ news) (hc : LC q.2) (hx : (x, ox) ∈ news) (h1 : ox.cls ≠ .type "list") (h2 : ∀ v, ox.data ≠ .cell v) : q.1 ≠ x := by
  intro e
  have e1 := (N _ hq).1
  have e2 := (N _ hx).1
  dsimp only at e2
  rw [e, e2] at e1
  have e3 := Option.some.inj e1
  rcases hc with hc | ⟨v, hc⟩
  · exact h1 (by rw [e3]; exact hc)
  · exact h2 v (by rw [e3]; exact hc)
theorem tabs_lc {h : Heap} {q : Addr × Obj} (N : News h₀ L h news) (T : Tabs news) (hq : q ∈ news) (hc : LC q.2) : q.1 ≠ 70 ∧ q.1 ≠ 77 := by
  obtain ⟨⟨o1, m1, ⟨ps, rfl, -⟩⟩, ⟨o2, m2, ⟨ps2, rfl, -⟩⟩⟩ := T
  exact ⟨ne_lc N hq hc m1 (by simp) (fun v e => by cases e), ne_lc N hq hc m2 (by simp) (fun v e => by cases e)⟩
def RowsF (w : World) (news : List (Addr × Obj)) (rs : List Addr) (sz : Addr → Nat) : Prop := ∀ r ∈ rs, RowIn w news r (sz r)
abbrev posLam : Pos := { line := 74, col := 33, endLine := 74, endCol := 63 }
theorem ints_get : ∀ {vs : List Value} {cs : List Int}, IntsAre vs cs → ∀ (i : Nat) (c : Int), cs[i]? = some c → ∃ u, vs[i]? = some (Value.int c u)
  | _, _, .nil, i, c, e => by simp at e
  | _, _, .cons n t h, 0, c, e => by simp at e; subst e; exact ⟨t, rfl⟩
  | _, _, .cons n t h, i + 1, c, e => by simp at e; obtain ⟨u, hu⟩ := ints_get h i c e; exact ⟨u, by simpa using hu⟩

theorem fr_name {g h : Heap} {L : Addr} {m : Str → Option Value} (F : Fr g L h m) : ∃ m', m' = m ∧ Fr g L h m' := ⟨m, rfl, F⟩
theorem eq_tup {w : World} {A : Around} {E : Value → Shared → Prop} {s : Shared} {g : Heap} {L a b : Addr} {news : List (Addr × Obj)} {k : Nat} {t1 t2 t3 t4 : Tok} {Q : Value → Shared → Prop} (N : News g L s.heap news)
    (ha : (a, tup2 (.str " " t1) (.str (letter k) t2) 0) ∈ news) (hb : (b, tup2 (.str " " t3) (.str (letter k) t4) 0) ∈ news) (hk : k < 26) (hu : A.units + 64 < cLine) (h : Q (.bool true) s) :
    wpAny (model P0 w) A (compareOp .Eq (.ref a) (.ref b)) Q E s := by
  have hs : SeqAt.shaped (.tuple [.str " ", .str (letter k)]) = true := by
    have : ∀ k, k < 26 → SeqAt.shaped (.tuple [.str " ", .str (letter k)]) = true := by decide +kernel
    exact this k hk
  refine eq_dataH (reads_tuple_at (N.get ha) rfl rfl (.cons (.str _ _) (.cons (.str _ _) .nil))) (reads_tuple_at (N.get hb) rfl rfl (.cons (.str _ _) (.cons (.str _ _) .nil))) hs hs hu ?_
  have e : (PyData.eqv (.tuple [.str " ", .str (letter k)]) (.tuple [.str " ", .str (letter k)])) = true := by
    simp [PyData.eqv, PyData.eqvAll]
  rw [e]; exact h
theorem push_of (items : Array Value) (h : 0 < items.size) : ∃ (its : Array Value) (v : Value), items = its.push v := by
  obtain ⟨l⟩ := items
  rcases List.eq_nil_or_concat l with rfl | ⟨l', v, rfl⟩
  · simp at h
  · exact ⟨l'.toArray, v, by simp⟩
set_option maxHeartbeats 8000000 in
theorem c_taken (B : Below A₀ base outer h₀) (F : Fr h₀ L s.heap m) (X₀ : (hd.heap_39 w.params).In h₀) (N : News h₀ L s.heap news) (T : Top p loose mean mg mb h₀) (hA : A.frames = some (env :: outer)) (hf : env.frame = some L) (hke : env.scope.kind = .function)
    (hh : A.handled = none) (hD : A.depth + 100 < recursionLimit) (hU : A.units + 100 < cLine) (hb : AllBare s.gens) {lr lo : Addr} {rep oep : Nat} {rs : List Addr} {vs : List Value} {cs : List Int} {sz : Addr → Nat}
    (hl : (lr, listOf (rs.map Value.ref).toArray rep) ∈ news) (ho : (lo, listOf vs.toArray oep) ∈ news) (hvs : IntsAre vs cs) (hcs : ∀ c ∈ cs, 0 ≤ c) (hc4 : cs.length ≤ 8) (hrs : rs.Nodup) (hr4 : rs.length = 4) (hR : RowsF w news rs sz) (hsz : ∀ r ∈ rs, sz r < 26)
    (hT : Tabs news) (hLT : LamTab posLam (Str.ofString "_law_taken.<locals>." ++ "<lambda>") news)
    (h : ∀ s' news' lt ep n sz', Fr h₀ L s'.heap m → News h₀ L s'.heap news' → SubL news news' → (lt, listOf (List.replicate n (Value.bool true)).toArray ep) ∈ news' → RowsF w news' rs sz' → Run rs cs sz n sz' → AllBare s'.gens → s'.os = s.os → Tabs news' → LamTab posLam (Str.ofString "_law_taken.<locals>." ++ "<lambda>") news' → R (.ok (.ret (.ref lt))) s') :
    codeAny (model P0 w) A (.call (.ref 147) ⟨[.ref lr, .ref lo], []⟩) R s := by
  obtain ⟨hnd, dp, fr, gd, un⟩ := A
  dsimp only at hA hD hU hh
  subst hA
  subst hh
  refine' code_def (K := hd.heap_39 w.params) (prog := P0) (binds := [("rows", .ref lr), ("rooms", .ref lo)]) B F X₀ N T rfl hf hke ?k6 ?k7 ?k8 ?k9 ?kB ?_ ?c1 ?c2 ?c3 ?c4
  case k6 => k_is
  case k7 => k_is
  case k8 => dsimp only; omega
  case k9 => exact BindsTo.of_eq rfl
  case kB => exact locs rfl
  case c4 => decide
  case c2 => exact rfl
  case c3 => exact rfl
  case c1 => exact rfl
  intro g L' h₁ FG F₁ N₁ B₁ X₁ T₁
  refine wpAny_execs_cons ?_
  refine wpAny_mono (Q := fun fl s₂ => Hold (fl = .next ∧ ∃ lt h₂ tk₂, s₂ = { s with heap := h₂, toks := tk₂ } ∧ Fr g L' h₂ (fun y => if y = ("taken" : Str) then some (Value.ref lt) else List.lookup y [(("rows" : Str), Value.ref lr), (("rooms" : Str), Value.ref lo)].reverse) ∧ News g L' h₂ ((lt, listOf #[] 0) :: news) ∧ ∀ q ∈ news, q.1 < lt)) ?_ ?_ (fun _ _ z => z)
  · k_steps
    exact ⟨by first | trivial | rfl, _, _, _, rfl, by assumption, by assumption, by assumption⟩
  rintro fl s₂ ⟨rfl, lt, h₂, tk₂, rfl, F₂, N₂, l₂⟩
  dsimp only
  refine wpAny_execs_cons ?_
  refine wpAny_For ?_
  refine ld F₂ rfl ?_
  have hl₂ := N₂ _ (.tail _ ho)
  refine wpAny_pyIter_list (items := vs.toArray) ⟨_, hl₂.1, rfl, _, rfl⟩ ?_
  have F₃ := F₂.push { cls := .type "list_iterator", data := .fields #[.ref lo, .int 0 0] }
  have N₃ := News.push F₂ N₂ { cls := .type "list_iterator", data := .fields #[.ref lo, .int 0 0] }
  have hloI : lo ≠ h₂.objs.size := Nat.ne_of_lt (Heap.lt_size hl₂.1)
  have hIl : ∀ q ∈ news, q.1 ≠ h₂.objs.size := fun q hq => Nat.ne_of_lt (Heap.lt_size (N₂ _ (.tail _ hq)).1)
  have htI : lt ≠ h₂.objs.size := Nat.ne_of_lt (Heap.lt_size (N₂ _ (.head _)).1)
  have htl : ∀ q ∈ news, q.1 ≠ lt := fun q hq => Nat.ne_of_lt (l₂ q hq)
  have up2 : Sub news (((h₂.objs.size, ({ cls := .type "list_iterator", data := .fields #[.ref lo, .int 0 0] } : Obj))) :: (lt, listOf #[] 0) :: news) := fun q hq => .tail _ (.tail _ hq)
  refine for_any (Walks.list (prog := P0) (w := w) (by rfl) h₂.objs.size lo hloI vs.toArray) (fun i s₁ => ∃ m' news' n sz' ep', Stand g L' m' s s₁ news' ∧ LamTab posLam (Str.ofString "_law_taken.<locals>." ++ "<lambda>") news' ∧ m' "taken" = some (.ref lt) ∧ m' "rows" = some (.ref lr) ∧
    IterAt news' h₂.objs.size lo i ∧ SubL news news' ∧ (lt, listOf (List.replicate n (Value.bool true)).toArray ep') ∈ news' ∧ RowsF w news' rs sz' ∧ Run rs (cs.take i) sz n sz' ∧ n ≤ 4 * i ∧ (∀ r ∈ rs, sz' r < 26)) ?_ ?_ ?_ ?_
  · rintro i s₁ ⟨m', news', n, sz', ep', Z, -, -, -, ⟨oi, hi1, hi2, hi3⟩, S', -⟩
    exact ⟨⟨oi, (Z.N _ hi1).1, hi2, hi3⟩, ⟨_, (Z.N _ (S' _ ho (.inl rfl))).1, rfl, _, rfl⟩⟩
  · refine ⟨_, _, 0, sz, 0, ⟨F₃, N₃, tabs_sub hT up2, hb, rfl⟩, hLT.imp fun q hq _ => up2 q hq, rfl, rfl, ⟨_, .head _, rfl, rfl⟩, fun q hq _ => up2 q hq, .tail _ (.head _), fun r hr => (hR r hr).sub up2, .nil _, by omega, hsz⟩
  · rintro i s₁ v h₄ tk₄ E' hin ⟨mO, newsO, n, sz1, epO, ZO, LO, hmt, hmr, ⟨oi, hi1, hi2, hi3⟩, SO, htO, RO, RunO, hn4, hszO⟩ hv ⟨⟨oj, hj1, hj2, hj3⟩, -⟩ k₄
    obtain ⟨F₄, N₄⟩ := upd_news ZO.F ZO.N hi1 (fun b y hb e => k₄ b y (by simpa using hb) e) hj1
    have S₄ := subX_upd (r := h₂.objs.size) (o' := oj) (news := newsO)
    have T₄ := tabs_upd (o' := oj) ZO.N ZO.T hi1 (by rw [hi2]; simp)
    have hi4 : (h₂.objs.size, oj) ∈ ((h₂.objs.size, oj) :: newsO.filter (fun p => decide (p.1 ≠ h₂.objs.size))) := .head _
    generalize ((h₂.objs.size, oj) :: newsO.filter (fun p => decide (p.1 ≠ h₂.objs.size))) = news₄ at N₄ S₄ T₄ hi4
    have not142 : (142 : Addr) ≠ h₂.objs.size := by
      obtain ⟨ps, hm0, -⟩ := hLT
      exact hIl _ hm0
    have L₄ : LamTab posLam (Str.ofString "_law_taken.<locals>." ++ "<lambda>") news₄ := by
      refine LO.subX ZO.N hi1 S₄ (Ne.symm not142) fun us t e1 e2 => ?_
      rw [hi3] at e1
      cases e1
      simp at e2
    have ht4 := S₄ _ htO htI
    have hl4 := S₄ _ (SO _ hl (.inl rfl)) (hIl _ hl)
    have R₄ : RowsF w news₄ rs sz1 := fun r hr => (RO r hr).subX ZO.N hi1 S₄ (by obtain ⟨_, _, _, q⟩ := (RO r hr).mem; exact ne_of_cls ZO.N q hi1 (by rw [hi2]; simp)) (by rw [hi2]; simp) (by rw [hi2]; simp)
    have ic : i < cs.length := by
      have := hvs.length
      simp only [List.size_toArray] at hin; omega
    obtain ⟨u, hu⟩ : ∃ u, v = .int cs[i] u := by
      obtain ⟨u, hu⟩ := ints_get hvs i cs[i] (List.getElem?_eq_getElem ic)
      have : vs.toArray[i]? = some (.int cs[i] u) := by simpa using hu
      rw [this] at hv
      exact ⟨u, (Option.some.inj hv).symm⟩
    subst hu
    refine st_N F₄ N₄ fun h₅ F₅ N₅ => ?_
    have F₆ := fr_known F₅ [("rows", .ref lr), ("taken", .ref lt), ("room", .int cs[i] u)] (by
      intro q hq
      rcases List.mem_cons.mp hq with rfl | hq
      · show (if ("rows" : Str) = "room" then _ else mO "rows") = _
        rw [if_neg (by decide)]; exact hmr
      · rcases List.mem_cons.mp hq with rfl | hq
        · show (if ("taken" : Str) = "room" then _ else mO "taken") = _
          rw [if_neg (by decide)]; exact hmt
        · rcases List.mem_cons.mp hq with rfl | hq
          · exact if_pos rfl
          · cases hq)
    clear F₅
    k_steps
    refine lam_make F₆ N₅ T₁ X₁ L₄ T₄ rfl rfl ?_
    intro f h₇ tk₇ news₇ F₇ N₇ S₇ L₇ LA₇ lf₇
    dsimp only
    k_steps
    show wpAny _ _ (call (.builtin "sorted") [.ref lr] [(Str.ofString "key", .ref f)]) _ _ _
    have n70 : (70 : Addr) ≠ 142 ∧ (77 : Addr) ≠ 142 := by decide
    have T₇ : Tabs news₇ := by
      obtain ⟨⟨o1, m1, g1⟩, ⟨o2, m2, g2⟩⟩ := T₄
      exact ⟨⟨o1, S₇ _ m1 n70.1, g1⟩, ⟨o2, S₇ _ m2 n70.2, g2⟩⟩
    have Z₇ : Stand g L' _ s { s₁ with heap := h₇, toks := tk₇ } news₇ := ⟨F₇, N₇, T₇, ZO.bare, ZO.os⟩
    have not142' : ∀ a o, (a, o) ∈ news₄ → o.cls ≠ .none → a ≠ 142 := fun a o e c => by
      obtain ⟨ps, hm0, -⟩ := L₄
      exact ne_of_cls N₅ e hm0 (by simpa using c)
    have R₇ : RowsF w news₇ rs sz1 := fun r hr => (R₄ r hr).imp fun a o e c => S₇ _ e (not142' a o e (by
      rcases c with rfl | c | c
      · obtain ⟨_, _, _, q⟩ := (R₄ a hr).mem
        have e1 := (N₅ _ e).1
        have e2 := (N₅ _ q).1
        dsimp only at e1 e2
        rw [e1] at e2; cases e2; simp
      · rw [c]; simp
      · rw [c]; simp))
    have hl7 := S₇ _ hl4 (not142' _ _ hl4 (by simp))
    have ht7 := S₇ _ ht4 (not142' _ _ ht4 (by simp))
    refine kst_sorted (vs := rs.map Value.ref) (kz := (rs.map sz1).map rowText) Z₇ hl7 (by simp) (by rw [List.length_map]; omega) (by rw [List.length_map]; omega) ?turn ?after
    case turn =>
      intro j v k hv hk s' news' Z' S'
      obtain ⟨r, hr, rfl⟩ : ∃ r, rs[j]? = some r ∧ v = .ref r := by
        rw [List.getElem?_map] at hv
        obtain ⟨r, h1, h2⟩ := Option.map_eq_some_iff.mp hv
        exact ⟨r, h1, h2.symm⟩
      have ek : k = rowText (sz1 r) := by
        rw [List.getElem?_map, List.getElem?_map, hr] at hk
        exact (Option.some.inj hk).symm
      subst ek
      have hrm : r ∈ rs := List.mem_of_getElem? hr
      have R' : RowIn w news' r (sz1 r) := (R₇ r hrm).imp fun a o e c => by
        have hc : o.cls ≠ .none := by
          rcases c with rfl | c | c
          · obtain ⟨_, _, _, q⟩ := (R₇ a hrm).mem
            have e1 := (N₇ _ e).1
            have e2 := (N₇ _ q).1
            dsimp only at e1 e2
            rw [e1] at e2; cases e2; simp
          · rw [c]; simp
          · rw [c]; simp
        exact S' _ e (acc_not N₇ T₇ e hc).1 (acc_not N₇ T₇ e hc).2
      obtain ⟨d, items, ep9, t9, t9', h1, h2, h3, h4⟩ := R'
      have hsz9 := hszO r hrm
      obtain ⟨c', oc, us, tt, ctv, pm, a1, a2, a3, a4, a5, a6, a7⟩ := LA₇.subT N₇ T₇ S'
      refine wpAny_call ?_
      refine kla_code (K := hd.heap_39 w.params) (prog := P0) (binds := [("row", .ref r)]) B₁ Z'.F X₁ Z'.N T₁ rfl rfl rfl a1 (codeRec_news Z'.N a2 a6 a7) (by ktr_room) rfl (locs rfl) ?_ rfl rfl rfl (by decide)
      intro g2 L2 h2' FG2 F2 N2 B2 X2 T2
      k_steps
      obtain ⟨⟨o70, m70, g70⟩, ⟨o77, m77, g77⟩⟩ := Z'.T
      refine kso_call (by ktr_units) (X2.keeps F2.keep) (inst_news N2 h1 h2) str_is.1 str_is.2 ?_
      refine wpAny_call ?_
      refine c_str B2 F2 X2 N2 T2 rfl rfl rfl rfl Z'.bare (by ktr_room) (by ktr_units) (by omega) h1 h2 h4 m77 g77 ?_
      intro s₃ news₃ t₃ o₃ F₃' N₃' S₃ m77₃ g77₃ hb₃ hos₃
      show StrBack _ _ _
      unfold StrBack
      dsimp only
      k_steps
      exact ⟨_, news₃, by rw [h3], ⟨by assumption, by assumption, ⟨⟨_, S₃ _ m70 (by show (70 : Nat) ≠ 77; decide), g70⟩, ⟨_, m77₃, g77₃⟩⟩, hb₃, hos₃.trans Z'.os⟩, fun q hq n1 n2 => S₃ q hq n2⟩
    case after =>
      intro D s₈ news₈ out c Z₈ S₈ mD lD ko
      obtain ⟨ord, hord, hout, hpw⟩ := order_of hszO ko
      have eout : out = (ord.map Value.ref).toArray := by rw [← hout, Array.toArray_toList]
      subst eout
      clear hout
      have F₈ := Z₈.F
      have N₈ := Z₈.N
      have not7 : ∀ a o, (a, o) ∈ news₇ → o.cls ≠ .none → (a, o) ∈ news₈ := fun a o e c => S₈ _ e (acc_not N₇ T₇ e c).1 (acc_not N₇ T₇ e c).2
      have hi8 := not7 _ _ (S₇ _ hi4 (not142' _ _ hi4 (by rw [hj2]; simp))) (by rw [hj2]; simp)
      have ht8 := not7 _ _ ht7 (by simp)
      have L₈ : LamTab posLam (Str.ofString "_law_taken.<locals>." ++ "<lambda>") news₈ := L₇.subT S₈
      have R₈ : RowsF w news₈ rs sz1 := fun r hr => (R₇ r hr).imp fun a o e c => not7 _ _ e (by
        rcases c with rfl | c | c
        · obtain ⟨_, _, _, q⟩ := (R₇ a hr).mem
          have e1 := (N₇ _ e).1
          have e2 := (N₇ _ q).1
          dsimp only at e1 e2
          rw [e1] at e2; cases e2; simp
        · rw [c]; simp
        · rw [c]; simp)
      have SL₈ : SubL news news₈ := fun q hq hc => by
        have q4 := S₄ _ (SO q hq hc) (hIl q hq)
        have n1 : q.1 ≠ 142 := by
          obtain ⟨ps, hm0, -⟩ := L₄
          exact ne_lc N₅ q4 hc hm0 (by simp) (fun v e => by cases e)
        have q7 := S₇ _ q4 n1
        exact S₈ _ q7 (tabs_lc N₇ T₇ q7 hc).1 (tabs_lc N₇ T₇ q7 hc).2
      clear not7
      k_steps
      rename_i h₉ F₉ N₉
      obtain ⟨m₉, hm₉, F₉'⟩ := fr_name F₉
      have hc0 : 0 ≤ cs[i] := hcs _ (List.getElem_mem _)
      have m9t : m₉ "taken" = some (.ref lt) ∧ m₉ "rows" = some (.ref lr) := by subst hm₉; exact ⟨rfl, rfl⟩
      clear F₉'
      refine wpAny_For ?_
      refine wpAny_mono (Q := fun v s₂ => Hold (∃ D2 c2 h' tk', v = .ref D2 ∧ s₂ = { s₈ with heap := h', toks := tk' } ∧ Fr g L' h' m₉ ∧ News g L' h' ((D2, listOf ((ord.drop (4 - min 4 (cs[i]).toNat)).map Value.ref).toArray c2) :: news₈) ∧ ∀ q ∈ news₈, q.1 < D2)) (E := E') ?_ ?_ (fun _ _ z => z)
      · k_steps
        rename_i hM tkM FM NM
        dsimp only
        refine slice_from (s := { s₈ with heap := hM, toks := _ }) FM NM mD ?_ ?_ ?_ ?_ ?_
        · split <;> omega
        · have := sizeLine_eq
          rw [List.size_toArray, List.length_map, hord.length_eq]; omega
        · intro D2 hA FA NA lA
          have ex : (4 - if cs[i] < 4 then cs[i] else 4).toNat = 4 - min 4 (cs[i]).toNat := by split <;> omega
          rw [ex] at NA
          exact ⟨D2, 0, hA, _, rfl, rfl, hm₉ ▸ FA, by rw [List.map_drop]; exact NA, lA⟩
        · with_unfolding_all rfl
        · intro _; rfl
      rintro v s₂ ⟨D2, c2, hA, tkA, rfl, rfl, FA, NA, lA⟩
      clear F₉
      have hselr : ∀ r ∈ ord.drop (4 - min 4 (cs[i]).toNat), r ∈ rs := fun r hr => hord.mem_iff.mp (List.mem_of_mem_drop hr)
      have hseln : (ord.drop (4 - min 4 (cs[i]).toNat)).Nodup := (hord.nodup_iff.mpr hrs).sublist (List.drop_sublist _ _)
      have hsel4 : (ord.drop (4 - min 4 (cs[i]).toNat)).length ≤ 4 := by rw [List.length_drop, hord.length_eq]; omega
      have hTurn : Turn rs cs[i] sz1 _ _ := ⟨ord, hord, hpw, rfl, rfl⟩
      generalize ord.drop (4 - min 4 (cs[i]).toNat) = sel at NA hselr hseln hsel4 hTurn
      have ZA : Stand g L' m₉ s { s₈ with heap := hA, toks := tkA } ((D2, listOf (sel.map Value.ref).toArray c2) :: news₈) := ⟨FA, NA, tabs_sub Z₈.T fun q hq => .tail _ hq, Z₈.bare, Z₈.os⟩
      have hiA := List.mem_cons_of_mem (D2, listOf (sel.map Value.ref).toArray c2) hi8
      have htA := List.mem_cons_of_mem (D2, listOf (sel.map Value.ref).toArray c2) ht8
      have LA : LamTab posLam (Str.ofString "_law_taken.<locals>." ++ "<lambda>") ((D2, listOf (sel.map Value.ref).toArray c2) :: news₈) := L₈.sub fun q hq => .tail _ hq
      have RA : RowsF w ((D2, listOf (sel.map Value.ref).toArray c2) :: news₈) rs sz1 := fun r hr => (R₈ r hr).sub fun q hq => .tail _ hq
      have SA : SubL news ((D2, listOf (sel.map Value.ref).toArray c2) :: news₈) := fun q hq hc => .tail _ (SL₈ q hq hc)
      have mD2 := List.mem_cons_self (a := (D2, listOf (sel.map Value.ref).toArray c2)) (l := news₈)
      generalize ((D2, listOf (sel.map Value.ref).toArray c2) :: news₈) = newsA at ZA NA hiA htA LA RA SA mD2
      have hneD : D2 ≠ hA.objs.size := Nat.ne_of_lt (Heap.lt_size (NA _ mD2).1)
      have hAI : ∀ q ∈ newsA, q.1 ≠ hA.objs.size := fun q hq => Nat.ne_of_lt (Heap.lt_size (NA _ hq).1)
      have not142A : (142 : Addr) ≠ hA.objs.size := by obtain ⟨ps, hm0, -⟩ := LA; exact hAI _ hm0
      refine wpAny_pyIter_list (items := (sel.map Value.ref).toArray) ⟨_, (NA _ mD2).1, rfl, _, rfl⟩ ?_
      have ZB := ZA.push { cls := .type "list_iterator", data := .fields #[.ref D2, .int 0 0] }
      refine for_any (Walks.list (prog := P0) (w := w) (by rfl) hA.objs.size D2 hneD (sel.map Value.ref).toArray) (fun j s₁ => ∃ m' news' n2 ep', Stand g L' m' s s₁ news' ∧ LamTab posLam (Str.ofString "_law_taken.<locals>." ++ "<lambda>") news' ∧ m' "taken" = some (.ref lt) ∧ m' "rows" = some (.ref lr) ∧
        IterAt news' hA.objs.size D2 j ∧ (D2, listOf (sel.map Value.ref).toArray c2) ∈ news' ∧ (h₂.objs.size, oj) ∈ news' ∧ SubL news news' ∧ (lt, listOf (List.replicate (n + n2) (Value.bool true)).toArray ep') ∈ news' ∧
        RowsF w news' rs (fun r => if r ∈ sel.take j then sz1 r - 1 else sz1 r) ∧ n2 = ((sel.take j).filter (fun r => decide (0 < sz1 r))).length) ?_ ?_ ?_ ?_
      · rintro j s₁ ⟨m', news', n2, ep', Z, -, -, -, ⟨oi', hi1', hi2', hi3'⟩, mD', -⟩
        exact ⟨⟨oi', (Z.N _ hi1').1, hi2', hi3'⟩, ⟨_, (Z.N _ mD').1, rfl, _, rfl⟩⟩
      · refine ⟨_, _, 0, epO, ZB, LA.sub fun q hq => .tail _ hq, m9t.1, m9t.2, ⟨_, .head _, rfl, rfl⟩, .tail _ mD2, .tail _ hiA, fun q hq hc => .tail _ (SA q hq hc), .tail _ htA, fun r hr => ?_, by simp⟩
        have := (RA r hr).sub fun q hq => List.mem_cons_of_mem (hA.objs.size, ({ cls := .type "list_iterator", data := .fields #[.ref D2, .int 0 0] } : Obj)) hq
        simpa using this
      · rintro j s₁ v hB tkB E2 hjn ⟨mB, newsB, n2, epB, ZBB, LB, hmtB, hmrB, ⟨oiB, hi1B, hi2B, hi3B⟩, mDB, hiB, SB, htB, RB, hn2⟩ hvB ⟨⟨oC, hC1, hC2, hC3⟩, -⟩ kB
        obtain ⟨FC, NC⟩ := upd_news ZBB.F ZBB.N hi1B (fun b y hb e => kB b y (by simpa using hb) e) hC1
        have SC := subX_upd (r := hA.objs.size) (o' := oC) (news := newsB)
        have TC := tabs_upd (o' := oC) ZBB.N ZBB.T hi1B (by rw [hi2B]; simp)
        have hiC := List.mem_cons_self (a := (hA.objs.size, oC)) (l := newsB.filter (fun p => decide (p.1 ≠ hA.objs.size)))
        generalize ((hA.objs.size, oC) :: newsB.filter (fun p => decide (p.1 ≠ hA.objs.size))) = newsC at NC SC TC hiC
        have ne_it : ∀ a o, (a, o) ∈ newsB → o.cls ≠ .type "list_iterator" → a ≠ hA.objs.size := fun a o e c => ne_of_cls ZBB.N e hi1B (by rw [hi2B]; exact c)
        have LC : LamTab posLam (Str.ofString "_law_taken.<locals>." ++ "<lambda>") newsC := LB.subX ZBB.N hi1B SC (Ne.symm not142A) fun us t e1 e2 => by
          rw [hi3B] at e1
          cases e1
          simp at e2
        have hiC2 := SC _ hiB (hAI _ hiA)
        have mDC := SC _ mDB (ne_it _ _ mDB (by simp))
        have SLC : SubL news newsC := fun q hq hc => SC _ (SB q hq hc) (ne_lc ZBB.N (SB q hq hc) hc hi1B (by rw [hi2B]; simp) (fun v e => by rw [hi3B] at e; cases e))
        have htC := SC _ htB (ne_it _ _ htB (by simp))
        have RC : RowsF w newsC rs (fun r => if r ∈ sel.take j then sz1 r - 1 else sz1 r) := fun r hr => (RB r hr).subX ZBB.N hi1B SC (by obtain ⟨_, _, _, q⟩ := (RB r hr).mem; exact ne_it _ _ q (by simp)) (by rw [hi2B]; simp) (by rw [hi2B]; simp)
        have jn : j < sel.length := by simpa using hjn
        obtain ⟨r, hrj⟩ : ∃ r, sel[j]? = some r := ⟨_, List.getElem?_eq_getElem jn⟩
        have hvr : v = .ref r := by
          have : (sel.map Value.ref).toArray[j]? = some (.ref r) := by simp [hrj]
          rw [this] at hvB; exact (Option.some.inj hvB).symm
        subst hvr
        have etk : sel.take (j + 1) = sel.take j ++ [r] := by rw [List.take_add_one, hrj]; rfl
        have hrn : r ∉ sel.take j := by
          have := hseln.sublist (List.take_sublist (j + 1) sel)
          rw [etk, List.nodup_append] at this
          exact fun hm => this.2.2 r hm r (by simp) rfl
        have hrr : r ∈ rs := hselr r (List.mem_of_getElem? hrj)
        have Rr := RC r hrr
        rw [show (fun r => if r ∈ sel.take j then sz1 r - 1 else sz1 r) r = sz1 r from if_neg hrn] at Rr
        obtain ⟨d, items, epr, t9, t9', q1, q2, q3, q4⟩ := Rr
        have hsz9 := hszO r hrr
        refine st_N FC NC fun hE FE NE => ?_
        have FF := fr_known FE [("row", .ref r), ("taken", .ref lt), ("rows", .ref lr)] (by
          intro q hq
          rcases List.mem_cons.mp hq with rfl | hq
          · exact if_pos rfl
          · rcases List.mem_cons.mp hq with rfl | hq
            · show (if ("taken" : Str) = "row" then _ else mB "taken") = _
              rw [if_neg (by decide)]; exact hmtB
            · rcases List.mem_cons.mp hq with rfl | hq
              · show (if ("rows" : Str) = "row" then _ else mB "rows") = _
                rw [if_neg (by decide)]; exact hmrB
              · cases hq)
        clear FE
        k_steps
        refine acc_method (f := .ref 97) (tf := .type "function") (X₁.keeps FF.keep) (inst_news NE q1 q2) f_ow (looks_typeIn (X₁.keeps FF.keep) f_fn.2.2) (by decide) no_is.1.2 ?_
        refine callWith_K0 (X₁.keeps FF.keep) keep_fn.1.2 ?_
        refine wpAny_call ?_
        refine c_ow B₁ FF X₁ NE T₁ rfl rfl rfl rfl ZBB.bare (by ktr_room) (by ktr_units) (by omega) q1 q2 q4 TC ?_
        intro s₃ news₃ F₃ N₃ S₃ T₃ hb₃ hos₃
        have keep3 : ∀ a o, (a, o) ∈ newsC → o.cls ≠ .none → (a, o) ∈ news₃ := fun a o e c => S₃ _ e (acc_not NE TC e c).1 (acc_not NE TC e c).2
        have L₃ := LC.subT S₃
        have hI₃ := keep3 _ _ hiC (by rw [hC2]; simp)
        have hi₃ := keep3 _ _ hiC2 (by rw [hj2]; simp)
        have mD₃ := keep3 _ _ mDC (by simp)
        have ht₃ := keep3 _ _ htC (by simp)
        have SL₃ : SubL news news₃ := fun q hq hc => S₃ _ (SLC q hq hc) (tabs_lc NE TC (SLC q hq hc) hc).1 (tabs_lc NE TC (SLC q hq hc) hc).2
        have R₃ : RowsF w news₃ rs (fun r => if r ∈ sel.take j then sz1 r - 1 else sz1 r) := fun r' hr' => (RC r' hr').imp fun a o e c => keep3 _ _ e (by
          rcases c with rfl | c | c
          · obtain ⟨_, _, _, q⟩ := (RC a hr').mem
            have e1 := (NE _ e).1
            have e2 := (NE _ q).1
            dsimp only at e1 e2
            rw [e1] at e2; cases e2; simp
          · rw [c]; simp
          · rw [c]; simp)
        have q1₃ := keep3 _ _ q1 (by simp)
        have q2₃ := keep3 _ _ q2 (by simp)
        have q4₃ : ItemsIn news₃ items := q4.imp fun a o e c => keep3 _ _ e (by rw [c]; simp)
        clear keep3
        dsimp only
        rcases Nat.eq_zero_or_pos items.size with hz0 | hz0
        · rw [show (items.size == 0) = true by rw [hz0]; rfl]
          k_steps
          refine ⟨rfl, _, news₃, n2, epB, ⟨F₃, N₃, T₃, hb₃, hos₃.trans ZBB.os⟩, L₃, rfl, rfl, ⟨oC, hI₃, hC2, hC3⟩, mD₃, hi₃, SL₃, ht₃, fun r' hr' => ?_, ?_⟩
          · have := R₃ r' hr'
            dsimp only at this ⊢
            by_cases e : r' = r
            · subst e
              rw [if_neg hrn] at this
              rw [etk, if_pos (by simp), show sz1 r' - 1 = sz1 r' by omega]
              exact this
            · rw [etk]
              simpa [e] using this
          · rw [etk, List.filter_append, List.length_append, ← hn2]
            simp
            omega
        · rw [show (items.size == 0) = false by rw [beq_eq_false_iff_ne]; omega]
          k_steps
          obtain ⟨its, v, rfl⟩ := push_of items hz0
          have hk9 : its.size = sz1 r - 1 ∧ 0 < sz1 r := by rw [Array.size_push] at q3; omega
          obtain ⟨T, tT1, tT2, hvT, mT⟩ : ∃ T tT1 tT2, v = .ref T ∧ (T, tup2 (.str " " tT1) (.str (letter its.size) tT2) 0) ∈ news₃ := by
            obtain ⟨Ts, u1, u2, kk⟩ := q4₃
            obtain ⟨a1, a2⟩ := kk its.size (by rw [Array.size_push]; omega)
            rw [Array.getElem?_push_size] at a1
            exact ⟨_, _, _, Option.some.inj a1, a2⟩
          subst hvT
          refine acc_method (f := .ref 68) (tf := .type "function") (X₁.keeps F₃.keep) (inst_news N₃ q1₃ q2₃) f_pop (looks_typeIn (X₁.keeps F₃.keep) f_fn.1.2) (by decide) no_is.2.1.1 ?_
          refine callWith_K0 (X₁.keeps F₃.keep) keep_fn.2.1 ?_
          refine wpAny_call ?_
          refine c_pop B₁ F₃ X₁ N₃ T₁ rfl rfl rfl (by ktr_room) (by ktr_units) (by omega) q1₃ q2₃ ?_
          intro hP newsP tkP FP NP SP q1P
          have TP : Tabs newsP := by
            obtain ⟨⟨o1, m1, g1⟩, ⟨o2, m2, g2⟩⟩ := id T₃
            have q := acc_not N₃ T₃ q1₃ (by simp)
            exact ⟨⟨o1, SP _ m1 (Ne.symm q.1), g1⟩, ⟨o2, SP _ m2 (Ne.symm q.2), g2⟩⟩
          have LP : LamTab posLam (Str.ofString "_law_taken.<locals>." ++ "<lambda>") newsP := by
            refine L₃.subX N₃ q1₃ SP ?_ fun us t e1 e2 => by cases e1
            obtain ⟨ps, hm0, -⟩ := L₃
            exact ne_of_cls N₃ q1₃ hm0 (by simp)
          have rne : ∀ a o, (a, o) ∈ news₃ → o.cls ≠ .ref 108 → (a, o) ∈ newsP := fun a o e c => SP _ e (ne_of_cls N₃ e q1₃ c)
          have rneR : ∀ r' ∈ rs, r' ≠ r → RowIn w news₃ r' (if r' ∈ sel.take j then sz1 r' - 1 else sz1 r') → RowIn w newsP r' (if r' ∈ sel.take j then sz1 r' - 1 else sz1 r') := fun r' hr' hne R' => R'.subX N₃ q1₃ SP hne (by simp) (by simp)
          have q2P := rne _ _ q2₃ (by simp)
          have mTP := rne _ _ mT (by simp)
          have htP := rne _ _ ht₃ (by simp)
          have hIP := rne _ _ hI₃ (by rw [hC2]; simp)
          have hiP := rne _ _ hi₃ (by rw [hj2]; simp)
          have mDP := rne _ _ mD₃ (by simp)
          have SLP : SubL news newsP := fun q hq hc => SP _ (SL₃ q hq hc) (ne_lc N₃ (SL₃ q hq hc) hc q1₃ (by simp) (fun v e => by cases e))
          have RP : RowsF w newsP rs (fun r' => if r' ∈ sel.take (j + 1) then sz1 r' - 1 else sz1 r') := fun r' hr' => by
            dsimp only
            by_cases e : r' = r
            · subst e
              rw [etk, if_pos (by simp), ← hk9.1]
              exact ⟨d, its, epr + 1, t9, t9', q1P, q2P, rfl, q4₃.pop.imp fun a o e c => rne _ _ e (by rw [c]; simp)⟩
            · have := rneR r' hr' e (R₃ r' hr')
              rw [etk]
              simpa [e] using this
          dsimp only
          k_steps
          rename_i hQ FQ NQ
          have hk97 : (0 : Int) ≤ 97 + (its.size : Int) ∧ (97 : Int) + (its.size : Int) < 128 := by omega
          refine acc_method (f := .ref 105) (tf := .type "function") (X₁.keeps FQ.keep) (inst_news NQ q1P q2P) f_pc (looks_typeIn (X₁.keeps FQ.keep) f_fn.2.1) (by decide) no_is.1.1 ?_
          refine callWith_K0 (X₁.keeps FQ.keep) keep_fn.1.1 ?_
          refine wpAny_call ?_
          refine c_pc B₁ FQ X₁ NQ T₁ rfl rfl rfl (by ktr_room) q1P q2P ?_
          intro hW newsW tkW tW FW NW SW
          have mTW := SW _ mTP
          have htW := SW _ htP
          dsimp only
          k_steps
          rename_i D5 hX FX NX lX
          have chr_is : (⟨#[((97 : Int) + (its.size : Int)).toNat]⟩ : Str) = letter its.size := by
            rw [show ((97 : Int) + (its.size : Int)).toNat = 97 + its.size by omega]; rfl
          rw [chr_is] at NX
          refine eq_tup NX (.tail _ mTW) (.head _) (by omega) (by ktr_units) ?_
          k_steps
          have hn2' : n2 ≤ 4 := by rw [hn2]; exact Nat.le_trans (List.length_filter_le _ _) (by rw [List.length_take]; omega)
          obtain ⟨newsX, NX2, SX⟩ : ∃ newsX, News g L' hX newsX ∧ Sub newsW newsX := ⟨_, NX, fun q hq => .tail _ hq⟩
          clear NX
          have htX := SX _ htW
          refine append_at (NX2 _ htX).1 (fun hY sbY eY => ?_) ?_
          · obtain ⟨FY, NY⟩ := upd_news FX NX2 htX (fun b y hb e => sbY.extBut b y hb e) eY
            have SY := subX_upd (r := lt) (o' := listOf ((List.replicate (n + n2) (Value.bool true)).toArray.push (.bool true)) (epB + 1)) (news := newsX)
            have TY := tabs_upd (o' := listOf ((List.replicate (n + n2) (Value.bool true)).toArray.push (.bool true)) (epB + 1)) NX2 (tabs_sub (tabs_sub TP SW) SX) htX (by simp)
            have htY := List.mem_cons_self (a := (lt, listOf ((List.replicate (n + n2) (Value.bool true)).toArray.push (.bool true)) (epB + 1))) (l := newsX.filter (fun p => decide (p.1 ≠ lt)))
            generalize ((lt, listOf ((List.replicate (n + n2) (Value.bool true)).toArray.push (.bool true)) (epB + 1)) :: newsX.filter (fun p => decide (p.1 ≠ lt))) = newsY at NY SY TY htY
            have SPX : Sub newsP newsX := fun q hq => SX _ (SW _ hq)
            have ylist : ∀ a o, (a, o) ∈ newsP → o.cls ≠ .type "list" → (a, o) ∈ newsY := fun a o e c => SY _ (SPX _ e) (ne_of_cls NX2 (SPX _ e) htX c)
            have n142 : lt ≠ 142 := by
              obtain ⟨ps, hm0, -⟩ := LP
              exact ne_of_cls NX2 htX (SPX _ hm0) (by simp)
            have LY : LamTab posLam (Str.ofString "_law_taken.<locals>." ++ "<lambda>") newsY := (LP.sub SPX).subX NX2 htX SY n142 fun us t e1 e2 => by cases e1
            have RY : RowsF w newsY rs (fun r' => if r' ∈ sel.take (j + 1) then sz1 r' - 1 else sz1 r') := fun r' hr' => (RP r' hr').imp fun a o e c => by
              rcases c with rfl | c | c
              · obtain ⟨_, _, _, q⟩ := (RP a hr').mem
                exact SY _ (SPX _ e) (ne_of_cls NX2 (SPX _ q) htX (by simp))
              · exact ylist _ _ e (by rw [c]; simp)
              · exact ylist _ _ e (by rw [c]; simp)
            have hltD : D2 ≠ lt := Nat.ne_of_gt (lA _ ht8)
            have erep : (List.replicate (n + n2) (Value.bool true)).toArray.push (.bool true) = (List.replicate (n + (n2 + 1)) (Value.bool true)).toArray := by
              rw [List.push_toArray, ← Nat.add_assoc, List.replicate_succ']
            rw [erep] at htY
            k_steps
            refine ⟨rfl, _, newsY, n2 + 1, epB + 1, ⟨by assumption, by assumption, TY, hb₃, hos₃.trans ZBB.os⟩, LY, rfl, rfl, ⟨oC, ylist _ _ hIP (by rw [hC2]; simp), hC2, hC3⟩, SY _ (SPX _ mDP) hltD, ylist _ _ hiP (by rw [hj2]; simp), fun q hq hc => SY _ (SPX _ (SLP q hq hc)) (htl q hq), htY, RY, ?_⟩
            rw [etk, List.filter_append, List.length_append, ← hn2]
            simp [hk9.2]
          · have := sizeLine_eq
            rw [List.size_toArray, List.length_replicate]
            omega
      · rintro s₁ hB tkB ⟨mB, newsB, n2, epB, ZBB, LB, hmtB, hmrB, ⟨oiB, hi1B, hi2B, hi3B⟩, mDB, hiB, SB, htB, RB, hn2⟩ kB
        obtain ⟨FC, NC⟩ := drop_news ZBB.F ZBB.N hi1B (fun b y hb e => kB b y (by simpa using hb) e)
        have SC := subX_drop (r := hA.objs.size) (news := newsB)
        have TC : Tabs (newsB.filter (fun p => decide (p.1 ≠ hA.objs.size))) := by
          obtain ⟨⟨o1, m1, g1⟩, ⟨o2, m2, g2⟩⟩ := id ZBB.T
          have q := acc_not ZBB.N ZBB.T hi1B (by rw [hi2B]; simp)
          exact ⟨⟨o1, SC _ m1 (Ne.symm q.1), g1⟩, ⟨o2, SC _ m2 (Ne.symm q.2), g2⟩⟩
        have efull : sel.take (sel.map Value.ref).toArray.size = sel := by rw [List.size_toArray, List.length_map, List.take_length]
        rw [efull] at RB hn2
        have ne_it : ∀ a o, (a, o) ∈ newsB → o.cls ≠ .type "list_iterator" → a ≠ hA.objs.size := fun a o e c => ne_of_cls ZBB.N e hi1B (by rw [hi2B]; exact c)
        have hn2' : n2 ≤ 4 := by rw [hn2]; exact Nat.le_trans (List.length_filter_le _ _) hsel4
        have etk : cs.take (i + 1) = cs.take i ++ [cs[i]] := by rw [List.take_add_one, List.getElem?_eq_getElem ic]; rfl
        refine wpAny_execs_nil ⟨rfl, mB, _, n + n2, _, epB, ⟨FC, NC, TC, ZBB.bare, ZBB.os⟩, ?_, hmtB, hmrB, ⟨oj, SC _ hiB ?_, hj2, hj3⟩, fun q hq hc => SC _ (SB q hq hc) (ne_lc ZBB.N (SB q hq hc) hc hi1B (by rw [hi2B]; simp) (fun v e => by rw [hi3B] at e; cases e)), SC _ htB (ne_it _ _ htB (by simp)), fun r hr => ?_, ?_, by omega, fun r hr => Nat.lt_of_le_of_lt (hTurn.le r) (hszO r hr)⟩
        · refine LB.subX ZBB.N hi1B SC (Ne.symm not142A) fun us t e1 e2 => ?_
          rw [hi3B] at e1
          cases e1
          simp at e2
        · exact hAI _ hiA
        · exact (RB r hr).subX ZBB.N hi1B SC (by obtain ⟨_, _, _, q⟩ := (RB r hr).mem; exact ne_it _ _ q (by simp)) (by rw [hi2B]; simp) (by rw [hi2B]; simp)
        · rw [etk, hn2]
          exact .snoc RunO hTurn
  · rintro s₁ hZ tkZ ⟨mO, newsO, n, sz', epO, ZO, LO, hmt, hmr, ⟨oi, hi1, hi2, hi3⟩, SO, htO, RO, RunO, hn4, hszO⟩ hkeep
    obtain ⟨FA, NA⟩ := drop_news ZO.F ZO.N hi1 (fun b y hb e => hkeep b y (by simpa using hb) e)
    have SA := subX_drop (r := h₂.objs.size) (news := newsO)
    have htA := SA _ htO htI
    have FC := fr_known FA [("taken", .ref lt)] (by
      intro q hq
      rcases List.mem_cons.mp hq with rfl | hq
      · exact hmt
      · cases hq)
    have efull : cs.take vs.toArray.size = cs := by rw [List.size_toArray, hvs.length, List.take_length]
    rw [efull] at RunO
    have RA : RowsF w (newsO.filter (fun p => decide (p.1 ≠ h₂.objs.size))) rs sz' := fun r hr => (RO r hr).subX ZO.N hi1 SA (by obtain ⟨_, _, _, q⟩ := (RO r hr).mem; exact ne_of_cls ZO.N q hi1 (by rw [hi2]; simp)) (by rw [hi2]; simp) (by rw [hi2]; simp)
    have SF : SubL news (newsO.filter (fun p => decide (p.1 ≠ h₂.objs.size))) := fun q hq hc => SA _ (SO q hq hc) (hIl q hq)
    have TA : Tabs (newsO.filter (fun p => decide (p.1 ≠ h₂.objs.size))) := by
      obtain ⟨⟨o1, m1, g1⟩, ⟨o2, m2, g2⟩⟩ := id ZO.T
      have q := acc_not ZO.N ZO.T hi1 (by rw [hi2]; simp)
      exact ⟨⟨o1, SA _ m1 (Ne.symm q.1), g1⟩, ⟨o2, SA _ m2 (Ne.symm q.2), g2⟩⟩
    have n142 : h₂.objs.size ≠ 142 := by
      obtain ⟨ps, hm0, -⟩ := hLT
      exact Ne.symm (hIl _ hm0)
    have LA : LamTab posLam (Str.ofString "_law_taken.<locals>." ++ "<lambda>") (newsO.filter (fun p => decide (p.1 ≠ h₂.objs.size))) := by
      refine LO.subX ZO.N hi1 SA n142 fun us t e1 e2 => ?_
      rw [hi3] at e1
      cases e1
      simp at e2
    generalize newsO.filter (fun p => decide (p.1 ≠ h₂.objs.size)) = newsA at NA SA htA RA SF TA LA
    clear FA
    dsimp only
    k_steps
    exact h _ newsA lt epO n sz' (by assumption) (by assumption) SF htA RA RunO ZO.bare ZO.os TA LA
end
end Mine
-- M23
namespace Mine
theorem fill23 : PySem.Challenge.rw_wr0007_01 = PySem.Challenge.rw_wr0007_01 ∧ hd.heap_39 = hd.heap_39 := by
  w_top off
  k_fill
  exact ⟨rfl, rfl⟩
local macro_rules | `(tactic| k_room) => `(tactic| ktr_room)
local macro_rules | `(tactic| k_units) => `(tactic| ktr_units)
section
variable {w : World} {A₀ A : Around} {base h₀ : Heap} {outer : List Env} {env : Env} {L : Addr} {m mg mb : Str → Option Value} {news : List (Addr × Obj)} {p : Program} {loose : List Str} {mean : ExcName → Option Value}
  {E : Value → Shared → Prop} {R : Result → Shared → Prop} {s : Shared}
theorem set_ints {M : Model} {lp : Addr} {us : List Value} {ps : List Int} {c : Nat} {k y : Int} {t u : Tok} {Q : Unit → Shared → Prop} (F : Fr h₀ L s.heap m) (N : News h₀ L s.heap news) (hm : (lp, listOf us.toArray c) ∈ news) (hi : IntsAre us ps) (h0 : 0 ≤ k) (h1 : k < ps.length) (hfit : k < 2 ^ 63)
    (h : ∀ h' us' c' news', Fr h₀ L h' m → News h₀ L h' news' → SubX lp news news' → (lp, listOf us'.toArray c') ∈ news' → IntsAre us' (ps.set k.toNat y) → Q () { s with heap := h' }) :
    wpAny (model P0 w) A (setItem (.ref lp) (.int k t) (.int y u)) Q E s := by
  have hl : us.length = ps.length := hi.length
  have ho := (N _ hm).1
  refine ki_setAt ho h0 hfit (by rw [List.size_toArray]; omega) ?_
  have s1 := Heap.SameBut.update s.heap lp (Obj.mapSeq (·.setIfInBounds k.toNat (.int y u)))
  have e1 : us.toArray.setIfInBounds k.toNat (.int y u) = (us.set k.toNat (.int y u)).toArray := by
    apply Array.toList_inj.mp
    simp
  obtain ⟨c', hc'⟩ : ∃ c', (s.heap.update lp (Obj.mapSeq (·.setIfInBounds k.toNat (.int y u)))).get? lp = some (listOf (us.set k.toNat (.int y u)).toArray c') := ⟨_, by rw [← e1]; exact get?_update_seq ho (·.setIfInBounds k.toNat (.int y u))⟩
  obtain ⟨F', N'⟩ := upd_news F N hm (fun b y hb e => s1.extBut b y hb e) hc'
  exact h _ _ c' _ F' N' subX_upd (.head _) (ints_set hi _)

theorem set_pos {ps : List Int} {k : Nat} {y : Int} (hy : 0 ≤ y) (hp : ∀ a ∈ ps, 0 ≤ a) : ∀ a ∈ ps.set k y, 0 ≤ a := fun a ha => by
  rcases List.mem_or_eq_of_mem_set ha with h | h
  · exact hp a h
  · rw [h]; exact hy
set_option maxHeartbeats 8000000 in
theorem c_places (B : Below A₀ base outer h₀) (F : Fr h₀ L s.heap m) (X₀ : (hd.heap_39 w.params).In h₀) (N : News h₀ L s.heap news) (T : Top p loose mean mg mb h₀) (hA : A.frames = some (env :: outer)) (hf : env.frame = some L) (hke : env.scope.kind = .function)
    (hh : A.handled = none) (hD : A.depth + 100 < recursionLimit) (hU : A.units + 100 < cLine) {l : Addr} {vs : List Value} {ns : List Int} (hl : h₀.IsList l vs.toArray) (hi : IntsAre vs ns) (h63 : ns.length ≤ 63)
    (h : ∀ h' news' tk lp us ps c, Fr h₀ L h' m → News h₀ L h' news' → Sub news news' → (lp, listOf (List.toArray us) c) ∈ news' → IntsAre us ps → ps.length = 8 → (∀ a ∈ ps, 0 ≤ a) → ps.sum ≤ 24 → R (.ok (.ret (.ref lp))) { s with heap := h', toks := tk }) :
    codeAny (model P0 w) A (.call (.ref 133) ⟨[.ref l], []⟩) R s := by
  obtain ⟨hnd, dp, fr, gd, un⟩ := A
  dsimp only at hA hD hU hh
  subst hA
  subst hh
  refine' code_def (K := hd.heap_39 w.params) (prog := P0) (binds := [("script", .ref l)]) B F X₀ N T rfl hf hke ?k6 ?k7 ?k8 ?k9 ?kB ?_ ?c1 ?c2 ?c3 ?c4
  case k6 => k_is
  case k7 => k_is
  case k8 => dsimp only; omega
  case k9 => exact BindsTo.of_eq rfl
  case kB => exact locs rfl
  case c4 => decide
  case c2 => exact rfl
  case c3 => exact rfl
  case c1 => exact rfl
  intro g L' h₁ FG F₁ N₁ B₁ X₁ T₁
  have hlg := stays_list FG.keep hl
  refine wpAny_execs_cons ?_
  refine wpAny_mono (Q := fun fl s₂ => Hold (fl = .next ∧ ∃ lt us h₂ tk₂, s₂ = { s with heap := h₂, toks := tk₂ } ∧ Fr g L' h₂ (fun y => if y = ("places" : Str) then some (Value.ref lt) else List.lookup y [(("script" : Str), Value.ref l)].reverse) ∧ News g L' h₂ ((lt, listOf (List.toArray us) 0) :: news) ∧ IntsAre us [1, 2, 0, 1, 2, 1, 1, 0] ∧ ∀ q ∈ news, q.1 < lt)) ?_ ?_ (fun _ _ z => z)
  · k_steps
    exact ⟨by first | trivial | rfl, _, _, _, _, rfl, by assumption, by assumption, .cons _ _ (.cons _ _ (.cons _ _ (.cons _ _ (.cons _ _ (.cons _ _ (.cons _ _ (.cons _ _ .nil))))))), by assumption⟩
  rintro fl s₂ ⟨rfl, lp, us, h₂, tk₂, rfl, F₂, N₂, hi₂, l₂⟩
  dsimp only
  clear F₁ N₁
  refine wpAny_execs_cons ?_
  refine wpAny_For ?_
  refine wpAny_mono (Q := fun v s₃ => Hold (∃ l8 ws h₃ tk₃, v = .ref l8 ∧ s₃ = { s with heap := h₃, toks := tk₃ } ∧ Fr g L' h₃ (fun y => if y = ("places" : Str) then some (Value.ref lp) else List.lookup y [(("script" : Str), Value.ref l)].reverse) ∧ News g L' h₃ ((l8, listOf (List.toArray ws) 0) :: (lp, listOf (List.toArray us) 0) :: news) ∧ IntsAre ws (ns.take 8) ∧ lp < l8)) ?_ ?_ (fun _ _ z => z)
  · k_steps
    rename_i D5 w5 h5 F5 N5 hI5 hC5 hL5 l5
    exact ⟨D5, w5, h5, _, rfl, rfl, F5, N5, hI5, l5.1⟩
  rintro v s₃ ⟨l8, ws, h₃, tk₃, rfl, rfl, F₃, N₃, hi₃, l₃⟩
  have m8 := N₃ _ (.head _)
  refine wpAny_pyIter_list (items := ws.toArray) ⟨_, m8.1, rfl, _, rfl⟩ ?_
  have F₄ := F₃.push { cls := .type "list_iterator", data := .fields #[.ref l8, .int 0 0] }
  have N₄ := News.push F₃ N₃ { cls := .type "list_iterator", data := .fields #[.ref l8, .int 0 0] }
  have h8I : l8 ≠ h₃.objs.size := Nat.ne_of_lt (Heap.lt_size m8.1)
  have hpI : lp ≠ h₃.objs.size := Nat.ne_of_lt (Heap.lt_size (N₃ _ (.tail _ (.head _))).1)
  have hIl : ∀ q ∈ news, q.1 ≠ h₃.objs.size := fun q hq => Nat.ne_of_lt (Heap.lt_size (N₃ _ (.tail _ (.tail _ hq))).1)
  refine for_any (Walks.list (prog := P0) (w := w) (by rfl) h₃.objs.size l8 h8I ws.toArray) (fun i s₁ => ∃ h' tk' m' news' us' ps c, s₁ = { s with heap := h', toks := tk' } ∧ Fr g L' h' m' ∧ News g L' h' news' ∧ m' "places" = some (.ref lp) ∧ IterAt news' h₃.objs.size l8 i ∧
    (l8, listOf (List.toArray ws) 0) ∈ news' ∧ Sub news news' ∧ (lp, listOf (List.toArray us') c) ∈ news' ∧ IntsAre us' ps ∧ ps.length = 8 ∧ (∀ a ∈ ps, 0 ≤ a) ∧ ps.sum ≤ 8 + 2 * (i : Int)) ?_ ?_ ?_ ?_
  · rintro i s₁ ⟨h', tk', m', news', us', ps, c, rfl, F', N', -, ⟨oi, hi1, hi2, hi3⟩, m8', -⟩
    exact ⟨⟨oi, (N' _ hi1).1, hi2, hi3⟩, ⟨_, (N' _ m8').1, rfl, _, rfl⟩⟩
  · exact ⟨_, _, _, _, us, _, 0, rfl, F₄, N₄, rfl, ⟨_, .head _, rfl, rfl⟩, .tail _ (.head _), fun q hq => .tail _ (.tail _ (.tail _ hq)), .tail _ (.tail _ (.head _)), hi₂, rfl, by decide, by decide⟩
  · rintro i s₁ v hB tkB E' hin ⟨h', tk', m', news', us', ps, c, rfl, F', N', hm', ⟨oi, hi1, hi2, hi3⟩, m8', S', mp', hi', hlen, hpos, hsum⟩ hv ⟨⟨oj, hj1, hj2, hj3⟩, -⟩ kB
    obtain ⟨FC, NC⟩ := upd_news F' N' hi1 (fun b y hb e => kB b y (by simpa using hb) e) hj1
    have SC := subX_upd (r := h₃.objs.size) (o' := oj) (news := news')
    have hiC := List.mem_cons_self (a := (h₃.objs.size, oj)) (l := news'.filter (fun p => decide (p.1 ≠ h₃.objs.size)))
    generalize ((h₃.objs.size, oj) :: news'.filter (fun p => decide (p.1 ≠ h₃.objs.size))) = newsC at NC SC hiC
    have m8C := SC _ m8' h8I
    have mpC := SC _ mp' hpI
    obtain ⟨x, u, hx, rfl⟩ : ∃ x u, (ns.take 8)[i]? = some x ∧ v = .int x u := by
      have ic : i < (ns.take 8).length := by rw [← hi₃.length]; simpa using hin
      obtain ⟨u, hu⟩ := ints_get hi₃ i (ns.take 8)[i] (List.getElem?_eq_getElem ic)
      have : ws.toArray[i]? = some (.int (ns.take 8)[i] u) := by simpa using hu
      rw [this] at hv
      exact ⟨_, u, List.getElem?_eq_getElem ic, (Option.some.inj hv).symm⟩
    refine st_N FC NC fun hE FE NE => ?_
    have FF := fr_known FE [("x", .int x u), ("places", .ref lp)] (by
      intro q hq
      rcases List.mem_cons.mp hq with rfl | hq
      · exact if_pos rfl
      · rcases List.mem_cons.mp hq with rfl | hq
        · show (if ("places" : Str) = "x" then _ else m' "places") = _
          rw [if_neg (by decide)]; exact hm'
        · cases hq)
    clear FE
    k_steps
    have hk0 : 0 ≤ x.fmod 8 := Int.fmod_nonneg_of_pos _ (by decide)
    have hk8 : x.fmod 8 < 8 := Int.fmod_lt_of_pos _ (by decide)
    have hd0 : 0 ≤ (x.fdiv 8).fmod 2 := Int.fmod_nonneg_of_pos _ (by decide)
    have hd2 : (x.fdiv 8).fmod 2 < 2 := Int.fmod_lt_of_pos _ (by decide)
    have hg0 : 0 ≤ ps.getD (x.fmod 8).toNat 0 := by
      have hlt : (x.fmod 8).toNat < ps.length := by omega
      rw [List.getD_eq_getElem?_getD, List.getElem?_eq_getElem hlt]
      exact hpos _ (List.getElem_mem _)
    refine set_ints (M := model P0 w) FF NE mpC hi' hk0 (by omega) (by omega) ?_
    intro hF us2 c2 newsF FF2 NF SF mF hiF
    have hsm := sum_set (x := ps.getD (x.fmod 8).toNat 0 + (1 + (x.fdiv 8).fmod 2)) (ns := ps) (j := (x.fmod 8).toNat) (by omega)
    have hpn : ∀ q ∈ news, q.1 ≠ lp := fun q hq => Nat.ne_of_lt (l₂ q hq)
    refine wpAny_execs_nil ⟨rfl, hF, _, _, newsF, us2, _, c2, rfl, FF2, NF, rfl, ⟨oj, SF _ hiC (Ne.symm hpI), hj2, hj3⟩, SF _ m8C (Nat.ne_of_gt l₃), fun q hq => SF _ (SC _ (S' q hq) (hIl q hq)) (hpn q hq), mF, hiF, by rw [List.length_set]; exact hlen, set_pos (by omega) hpos, ?_⟩
    rw [hsm]
    push_cast
    omega
  · rintro s₁ hZ tkZ ⟨h', tk', m', news', us', ps, c, rfl, F', N', hm', ⟨oi, hi1, hi2, hi3⟩, m8', S', mp', hi', hlen, hpos, hsum⟩ hkeep
    obtain ⟨FA, NA⟩ := drop_news F' N' hi1 (fun b y hb e => hkeep b y (by simpa using hb) e)
    have SA := subX_drop (r := h₃.objs.size) (news := news')
    have mpA := SA _ mp' hpI
    have SF : Sub news (news'.filter (fun p => decide (p.1 ≠ h₃.objs.size))) := fun q hq => SA _ (S' q hq) (hIl q hq)
    have FC := fr_known FA [("places", .ref lp)] (by
      intro q hq
      rcases List.mem_cons.mp hq with rfl | hq
      · exact hm'
      · cases hq)
    have hw8 : ws.toArray.size ≤ 8 := by
      rw [List.size_toArray, hi₃.length, List.length_take]; omega
    generalize news'.filter (fun p => decide (p.1 ≠ h₃.objs.size)) = newsA at NA SA mpA SF
    clear FA
    dsimp only
    k_steps
    exact h _ newsA _ lp us' ps c (by assumption) (by assumption) SF mpA hi' hlen hpos (by omega)
end
end Mine
-- M25
namespace Mine
theorem fill25 : PySem.Challenge.rw_wr0007_01 = PySem.Challenge.rw_wr0007_01 ∧ hd.heap_39 = hd.heap_39 := by
  w_top off
  k_fill
  exact ⟨rfl, rfl⟩
/-- the law's own record, read off the head -/
noncomputable def lawFn (P : Params) : Option FuncData := match (hd.heap_39 P).lookup 152 with
  | some ⟨_, _, .func fd, _⟩ => some fd
  | _ => none
noncomputable def lawBody (P : Params) : List Stmt := match lawFn P with
  | some fd => (match fd.body with | .stmts b => b | _ => [])
  | none => []
noncomputable def lawScope (P : Params) : Scope := match lawFn P with
  | some fd => fd.scope
  | none => default
/-- the body of a for that opens a list of statements -/
def forBody : List Stmt → List Stmt
  | .For _ _ b _ _ :: _ => b
  | _ => []
section
variable {w : World} {A₀ A : Around} {base h₀ g : Heap} {outer : List Env} {env : Env} {L L' : Addr} {m mg mb : Str → Option Value} {news : List (Addr × Obj)} {p : Program} {loose : List Str} {mean : ExcName → Option Value}
  {E : Value → Shared → Prop} {R : Result → Shared → Prop} {s : Shared}
/-- the value is kept in a cell of the ledger -/
theorem st_cell {M : Model} {cn : Str} {cs : Scope} {a : Addr} {ccd : Value} {cl : List (Str × Addr)} {x : Str} {c : Addr} {v : Value} {o : Obj} {v₀ : Option Value} {Q : Unit → Shared → Prop}
    (F : Fr h₀ L s.heap m) (N : News h₀ L s.heap news) (hc : cl.lookup x = some c) (hm : (c, o) ∈ news) (hd : o.data = .cell v₀)
    (h : ∀ h' o' news', Fr h₀ L h' m → News h₀ L h' news' → SubX c news news' → (c, o') ∈ news' → o'.data = .cell (some v) → Q () { s with heap := h' })
    (hk : cs.kind = .function := by rfl) (hx : (envX cn cs L a ccd cl).kindOf x = some .cell := by rfl) : wpAny M A (storeName (envX cn cs L a ccd cl) x v) Q E s := by
  refine wpAny_storeName_cell hk hx hc ⟨o, (N _ hm).1, hd⟩ fun h' hv hs => ?_
  obtain ⟨o', ho', hd'⟩ := hv
  obtain ⟨F', N'⟩ := upd_news F N hm (fun b y hb e => by rw [hs.2 b hb]; exact e) ho'
  exact h h' o' _ F' N' subX_upd (.head _) hd'
/-- a list comprehension over a list of ints that gives texts -/
theorem comp_text {elt iter : PySem.Expr} {x : Str} {px pos : Pos} {scope : Scope} {cl : List (Str × Addr)} {Q : Value → Shared → Prop} {l : Addr} {vs : List Value} {ns : List Int} {c : Nat} (tx : Int → Str)
    (F : Fr h₀ L s.heap m) (N : News h₀ L s.heap news) (hh : A.handled = none) (hl : (l, listOf vs.toArray c) ∈ news) (hi : IntsAre vs ns) (hsz : ns.length ≤ 1000)
    (hclos : closureFor scope env = pure cl) (hcell : ∀ y ∈ scope.names, y.2 ≠ .cell) (hkind : scope.kind = .function)
    (hnames : ∀ y ∈ scope.names, y.2 = .local → scope.names.lookup y.1 = some .local) (hx : scope.names.lookup x = some .local)
    (hiter : ∀ Q' : Value → Shared → Prop, Q' (.ref l) s → wpAny (model P0 w) A (eval iter env) Q' E s)
    (turn : ∀ k t C oC m₂ h tk news' (E' : Value → Shared → Prop), k ∈ ns → LCg.NsObj oC m₂ → m₂ x = some (.int k t) → Fr h₀ L h m → News h₀ L h news' → (C, oC) ∈ news' → Sub news news' →
      wpAny (model P0 w) A (eval elt (compEnvC scope cl C env)) (fun y s₂ => Hold (∃ h' tk' t', y = .str (tx k) t' ∧ s₂ = { s with heap := h', toks := tk' } ∧ Fr h₀ L h' m ∧ News h₀ L h' news')) E' { s with heap := h, toks := tk })
    (h : ∀ D h' tk ys, StrsAre ys (ns.map tx) → Fr h₀ L h' m → News h₀ L h' ((D, listOf ys.toArray ys.length) :: news) → Q (.ref D) { s with heap := h', toks := tk })
    (hs : ∀ x, foldedSetIterable iter env x = pure x := by intro _; rfl) :
    wpAny (model P0 w) A (eval (.ListComp elt [⟨.Name x px, iter, [], 0⟩] scope pos) env) Q E s := by
  have hsl : vs.toArray.size ≤ sizeLine := by
    have := sizeLine_eq
    have := hi.length
    rw [List.size_toArray]; omega
  refine LCg.ListComp_U F hclos hcell hkind hnames hx (hiter _ (LCg.CompSrc.ledger hh F N hl hsl fun g' => ?_)) hs
  have key : ∀ (j i : Nat) (ys : List Value), i + j = ns.length → StrsAre ys ((ns.take i).map tx) →
      LCg.CompRest P0 w A h₀ L m env elt x scope cl { s with heap := g' } (LCg.SrcAt h₀ l vs.toArray) (fun i v => vs.toArray[i]? = some v) (LCg.FinE h₀ L m { s with heap := g' } Q) j i ys news := by
    intro j
    induction j with
    | zero =>
      intro i ys hij hy
      have e : i = ns.length := by omega
      subst e
      rw [List.take_length] at hy
      refine LCg.CompRest.zero fun D h' tk F' N' _ => ?_
      exact h D h' tk ys hy F' N'
    | succ j ih =>
      intro i ys hij hy
      refine LCg.CompRest.succ ?_
      intro v I oI C oC D m₂ h2 tk E' hv hC hxv F' N' off ne
      obtain ⟨k, t, e, hk⟩ := IntsAre.at hi i v (by simpa using hv)
      subst e
      refine wpAny_mono (turn k t C oC m₂ h2 tk _ E' (List.mem_of_getElem? hk) hC hxv F' N' (.tail _ (.head _)) fun q hq => .tail _ (.tail _ (.tail _ hq))) (fun y s₂ hq => ?_) fun _ _ e => e
      obtain ⟨h', tk', t', rfl, e, F₂, N₂⟩ := hq
      refine ⟨h', tk', news, e, F₂, N₂, off, .inr ⟨_, hl, rfl, _, rfl⟩, ?_⟩
      refine ih (i + 1) _ (by omega) ?_
      rw [List.take_add_one, hk]
      simpa using kct_snoc hy
  have := key ns.length 0 [] (by omega) .nil
  have e : vs.toArray.size = ns.length := by rw [List.size_toArray]; exact hi.length
  rw [e]
  exact this
end
end Mine
-- M28
namespace Mine
theorem fill28 : PySem.Challenge.rw_wr0007_01 = PySem.Challenge.rw_wr0007_01 ∧ hd.heap_39 = hd.heap_39 := by
  w_top off
  k_fill
  exact ⟨rfl, rfl⟩
local macro_rules | `(tactic| k_room) => `(tactic| ktr_room)
local macro_rules | `(tactic| k_units) => `(tactic| ktr_units)
local macro_rules | `(tactic| walk_at "eval ListComp") => `(tactic| refine stop_it ?_)
local macro_rules | `(tactic| walk_at "callWith ref") => `(tactic| ((with_reducible show wpAny _ _ (callWith _ (Value.ref 28) _ _ _) _ _ _); refine stop_it ?_))
section
variable {w : World} {A₀ A : Around} {base h₀ g : Heap} {outer : List Env} {env : Env} {L L' : Addr} {m mg mb : Str → Option Value} {news : List (Addr × Obj)} {p : Program} {loose : List Str} {mean : ExcName → Option Value}
  {E : Value → Shared → Prop} {R : Result → Shared → Prop} {s : Shared} {fa : Addr} {cd : Value}
noncomputable abbrev lawEnv (P : Params) (L fa : Addr) (cd : Value) : Env := envOfC "law" (lawScope P) L fa cd
theorem ne_of_cell {h : Heap} {a b : Addr} {ob : Obj} {vs : Array Value} {c : Nat} {v : Option Value} (N : News g L h news) (ha : (a, listOf vs c) ∈ news) (hb : (b, ob) ∈ news) (hd : ob.data = .cell v) : b ≠ a := by
  intro e
  have e1 := (N _ ha).1
  have e2 := (N _ hb).1
  dsimp only at e1 e2
  rw [e, e1] at e2
  cases e2
  cases hd
theorem known_eq {m : Str → Option Value} {ks : List (Str × Value)} (hk : ∀ q ∈ ks, m q.1 = some q.2) (z : Str) : (match ks.lookup z with | some v => some v | none => m z) = m z := by
  cases hz : ks.lookup z with
  | none => rfl
  | some v => exact (hk _ (mem_of_lookup hz)).symm
theorem ints_app : ∀ {us vs : List Value} {ps qs : List Int}, IntsAre us ps → IntsAre vs qs → IntsAre (us ++ vs) (ps ++ qs)
  | _, _, _, _, .nil, h => h
  | _, _, _, _, .cons n t h, h' => .cons n t (ints_app h h')
/-- how many of these are greater -/
def cnt (k : Nat) (fs : List Int) : Nat := (fs.filter (fun f => decide ((k : Int) < f))).length
theorem col_is (k : Nat) (fs : List Int) (h : fs.length = 4) (hd : fs.Pairwise (fun a b => b ≤ a)) : ∃ j, j ≤ 4 ∧ Txt.join (Str.ofString "") (fs.map (fun n => if n > (k : Int) then Str.ofString "x" else Str.ofString " ")) = colText j ∧ j = cnt k fs := by
  match fs, h with
  | [a, b, c, d], _ =>
    simp only [List.pairwise_cons, List.mem_cons, List.not_mem_nil, or_false, forall_eq_or_imp, forall_eq] at hd
    unfold cnt
    by_cases h1 : a > (k : Int)
    · by_cases h2 : b > (k : Int)
      · by_cases h3 : c > (k : Int)
        · by_cases h4 : d > (k : Int)
          · exact ⟨4, by decide, by simp only [List.map, if_pos h1, if_pos h2, if_pos h3, if_pos h4]; decide +kernel, by simp [h1, h2, h3, h4]⟩
          · exact ⟨3, by decide, by simp only [List.map, if_pos h1, if_pos h2, if_pos h3, if_neg h4]; decide +kernel, by simp [h1, h2, h3, h4]⟩
        · have h4 : ¬ d > (k : Int) := by omega
          exact ⟨2, by decide, by simp only [List.map, if_pos h1, if_pos h2, if_neg h3, if_neg h4]; decide +kernel, by simp [h1, h2, h3, h4]⟩
      · have h3 : ¬ c > (k : Int) := by omega
        have h4 : ¬ d > (k : Int) := by omega
        exact ⟨1, by decide, by simp only [List.map, if_pos h1, if_neg h2, if_neg h3, if_neg h4]; decide +kernel, by simp [h1, h2, h3, h4]⟩
    · have h2 : ¬ b > (k : Int) := by omega
      have h3 : ¬ c > (k : Int) := by omega
      have h4 : ¬ d > (k : Int) := by omega
      exact ⟨0, by decide, by simp only [List.map, if_neg h1, if_neg h2, if_neg h3, if_neg h4]; decide +kernel, by simp [h1, h2, h3, h4]⟩
theorem tx_fits (k : Nat) (fs : List Int) (h : fs.length = 4) : ((fs.map (fun n => if n > (k : Int) then Str.ofString "x" else Str.ofString " ")).map (·.length)).sum + (fs.map (fun n => if n > (k : Int) then Str.ofString "x" else Str.ofString " ")).length * (Str.ofString "").length ≤ 16777216 := by
  have e1 : (Str.ofString "x").length = 1 := by decide +kernel
  have e2 : (Str.ofString " ").length = 1 := by decide +kernel
  have e3 : (Str.ofString "").length = 0 := by decide +kernel
  have key : ∀ fs : List Int, ((fs.map (fun n => if n > (k : Int) then Str.ofString "x" else Str.ofString " ")).map (·.length)).sum = fs.length := by
    intro fs
    induction fs with
    | nil => rfl
    | cons a fs ih =>
      rw [List.map_cons, List.map_cons, List.sum_cons, ih, List.length_cons]
      split
      · rw [e1]; omega
      · rw [e2]; omega
  rw [key, e3]
  omega
theorem it_at {value slice : PySem.Expr} {l : Addr} {vs : List Value} {k c : Nat} {u : Tok} {v : Value} {Q : Value → Shared → Prop} (N : News g L' s.heap news) (hm : (l, listOf vs.toArray c) ∈ news) (hk : k < 100) (hx : vs[k]? = some v) (h : Q v s)
    (hs : subscripted slice false (.ref l) (.int (k : Int) u) = operate [.ref l, .int (k : Int) u] (getItem (.ref l) (.int (k : Int) u))) :
    wpAny (model P0 w) A (subscriptTail value slice (.ref l) (.int (k : Int) u)) Q E s := by
  have hl : s.heap.IsList l vs.toArray := ⟨_, (N _ hm).1, rfl, _, rfl⟩
  have e63 : (2 : Int) ^ 63 = 9223372036854775808 := by decide
  have e0 : (0 : Int) ≤ (k : Int) := by omega
  have e1 : (k : Int) < 2 ^ 63 := by omega
  exact tail_any hl.typeIs slot_list_getitem.lookup (wpAny_getItem_list hl e0 e1 (by simpa using hx) h) hs
theorem law_kind {P : Params} {L fa : Addr} {cd : Value} : (lawEnv P L fa cd).scope.kind = .function := by kernel_rfl
theorem keep_cl {P : Params} : keepIn (hd.heap_39 P) (.ref 28) = true := by kernel_rfl
/-- what a turn of a loop over k leaves -/
def TurnEnd (x1 x2 : Str) (g : Heap) (L' : Addr) (s : Shared) (m : Str → Option Value) (news : List (Addr × Obj)) (l : Addr) (hs : List Int) (f : Flow) (s₃ : Shared) : Prop :=
  f = .next ∧ ∃ h' tk' m' news' us c, s₃ = { s with heap := h', toks := tk' } ∧ Fr g L' h' m' ∧ News g L' h' news' ∧ (∀ q ∈ news, q.1 ≠ L' + 1 → q.1 ≠ l → q ∈ news') ∧ (l, listOf (List.toArray us) c) ∈ news' ∧ IntsAre us hs ∧ (∃ o v, (L' + 1, o) ∈ news' ∧ o.data = .cell v) ∧ (∀ z : Str, z ≠ x1 → z ≠ x2 → m' z = m z)
theorem in_dec {x y : Str} {t u : Tok} {b : Bool} {Q : Value → Shared → Prop} (hb : Txt.contains x y = b) (h : Q (.bool b) s) : wpAny (model P0 w) A (compareOp .In (.str y u) (.str x t)) Q E s := SB.contains (by rw [hb]; exact h)
local macro_rules | `(tactic| walk_at "compareOp In str str") => `(tactic| first | refine in_dec (b := true) (by decide +kernel) ?_ | refine in_dec (b := false) (by decide +kernel) ?_)
local macro_rules | `(tactic| walk_at "subscriptTail Name Name ref int") => `(tactic| ((with_reducible show wpAny _ _ (subscriptTail _ _ (Value.ref _) (Value.int _ _)) _ _ _); with_unfolding_all refine' it_at ?k1 ?k2 ?k3 ?k4 ?_ ?k6; (case k1 => assumption); (case k2 => assumption); (case k3 => omega); (case k4 => assumption); (case k6 => with_unfolding_all rfl)))
set_option maxHeartbeats 1000000 in
theorem t_height (B : Below A₀ base outer g) (hA : A.frames = some (lawEnv w.params L' fa cd :: outer)) (hD : A.depth + 110 < recursionLimit) (hU : A.units + 110 < cLine) (F : Fr g L' s.heap m) (N : News g L' s.heap news) (X : (hd.heap_39 w.params).In g) (T : Top p loose mean mg mb g) {k : Nat} {u : Tok} {lf lh : Addr} {fv hv : List Value} {fs hs : List Int} {c c2 : Nat} {oK : Obj} {v₀ : Option Value} (hk4 : k < 4) (hh : A.handled = none) (hfs : fs.length = 4) (hdec : fs.Pairwise (fun a b => b ≤ a))
    (hmf : m "falling" = some (.ref lf)) (hmh : m "heights" = some (.ref lh)) (hf : (lf, listOf fv.toArray c) ∈ news) (hi : IntsAre fv fs)
    (hK : (L' + 1, oK) ∈ news) (hKd : oK.data = .cell v₀) (hlh : (lh, listOf hv.toArray c2) ∈ news) (hiv : IntsAre hv hs) (hsk : hs.length = k) :
    wpAny (model P0 w) A (storeName (lawEnv w.params L' fa cd) "k" (.int (k : Int) u)) (fun _ s₂ => wpAny (model P0 w) A (execs (forBody ((lawBody w.params).drop 8)) (lawEnv w.params L' fa cd)) (fun f s₃ => Hold (TurnEnd "column" "noted" g L' s m news lh (hs ++ [(cnt k fs : Int)]) f s₃)) E s₂) E s := by
  refine st_cell F N (by rfl) hK hKd ?_
  intro h₁ o₁ news₁ F₁ N₁ S₁ hK₁ hKd₁
  show wpAny _ _ (execs _ (envOfC _ (Scope.mk _ _ _ _ _) _ _ _)) _ _ _
  refine wpAny_execs_cons ?_
  have hkn : ∀ q ∈ ([("falling", .ref lf), ("heights", .ref lh)] : List (Str × Value)), m q.1 = some q.2 := by
    intro q hq
    rcases List.mem_cons.mp hq with rfl | hq
    · exact hmf
    · rcases List.mem_cons.mp hq with rfl | hq
      · exact hmh
      · cases hq
  have F₂ := fr_known F₁ _ hkn
  clear F₁
  k_steps
  show wpAny _ _ _ _ _ _
  have hf₁ := S₁ _ hf (Ne.symm (ne_of_cell N hf hK hKd))
  have hlh₁ := S₁ _ hlh (Ne.symm (ne_of_cell N hlh hK hKd))
  refine' comp_text (cl := [("k", L' + 1)]) (fun n => if n > (k : Int) then Str.ofString "x" else Str.ofString " ") F₂ N₁ ?hh hf₁ hi ?hsz ?hclos ?hcell ?hkind ?hnames ?hx ?hiter ?turn ?_ (by intro _; rfl)
  case hh => exact hh
  case hsz => omega
  case hclos => with_unfolding_all rfl
  case hcell => decide
  case hkind => rfl
  case hnames => decide
  case hx => rfl
  case hiter =>
    intro Q' hq
    k_steps
    exact hq
  case turn =>
    intro n t C oC m₂ h₂ tk₂ news₂ E₂ hn hC hxv F₃ N₃ hCm S₂
    have hK₂ := S₂ _ hK₁
    clear F₂ N₁ F N hK₁ S₂ S₁ hf hf₁ hK
    k_steps
    · exact ⟨_, _, _, by rw [if_pos (by assumption)], rfl, by assumption, by assumption⟩
    · exact ⟨_, _, _, by rw [if_neg (by omega)], rfl, by assumption, by assumption⟩
  intro D h₃ tk₃ ys hys F₃ N₃
  clear F₂ N₁
  obtain ⟨news₃, N₄, S₃, hD₃⟩ : ∃ news₃, News g L' h₃ news₃ ∧ Sub news₁ news₃ ∧ (D, listOf ys.toArray ys.length) ∈ news₃ := ⟨_, N₃, fun q hq => .tail _ hq, .head _⟩
  have hlh₃ := S₃ _ hlh₁
  have hK₃ := S₃ _ hK₁
  clear N₃ N
  k_steps
  refine join_list (items := ys.toArray) ⟨_, (N₄ _ hD₃).1, rfl, _, rfl⟩ hys (tx_fits k fs hfs) ?_
  intro t₄ tk₄
  obtain ⟨j, hj, ej, ec⟩ := col_is k fs hfs hdec
  rw [ej]
  clear ej hys
  have hvk : hv.length = k := hiv.length.trans hsk
  rcases (show j = 0 ∨ j = 1 ∨ j = 2 ∨ j = 3 ∨ j = 4 by omega) with rfl | rfl | rfl | rfl | rfl
  · dsimp only [colText]
    k_steps
    rename_i h₅ F₅ N₅
    show wpAny _ _ _ _ _ _
    refine callWith_K X keep_cl ?_
    refine wpAny_mono (Q := fun us s₂ => Hold (∃ t tk, us = [.str (Str.ofString "    ") t] ∧ s₂ = { s with heap := h₅, toks := tk })) ?_ ?_ (fun _ _ z => z)
    · k_steps
      exact ⟨_, _, rfl, rfl⟩
    rintro us s₂ ⟨t₅, tk₅, rfl, rfl⟩
    refine ⟨X.keeps F₅.keep, ?_⟩
    refine wpAny_call ?_
    refine c_cl0 (outer := outer) (env := lawEnv w.params L' fa cd) B F₅ X N₅ T hA rfl law_kind hh (by omega) (by omega) ?_
    intro h₆ tk₆ t₆ F₆ N₆
    dsimp only
    clear F₅ N₅
    k_steps
    rename News g L' _ news₃ => N₆
    rename Fr g L' _ _ => F₆
    refine append_at (N₆ _ hlh₃).1 (fun h₇ sb₇ e₇ => ?_) (by have := sizeLine_eq; rw [List.size_toArray]; omega)
    obtain ⟨t₇, e₇⟩ : ∃ t₇, h₇.get? lh = some (listOf (hv.toArray.push (.int 0 t₇)) (c2 + 1)) := ⟨_, e₇⟩
    obtain ⟨F₇, N₇⟩ := upd_news F₆ N₆ hlh₃ (fun b y hb e => sb₇.extBut b y hb e) e₇
    have S₇ := subX_upd (r := lh) (o' := listOf (hv.toArray.push (.int 0 t₇)) (c2 + 1)) (news := news₃)
    have hlh₇ := List.mem_cons_self (a := (lh, listOf (hv.toArray.push (.int 0 t₇)) (c2 + 1))) (l := news₃.filter (fun p => decide (p.1 ≠ lh)))
    have hK₇ := S₇ _ hK₃ (ne_of_cell N₆ hlh₃ hK₃ hKd₁)
    generalize ((lh, listOf (hv.toArray.push (.int 0 t₇)) (c2 + 1)) :: news₃.filter (fun p => decide (p.1 ≠ lh))) = news₇ at N₇ S₇ hlh₇ hK₇
    rw [show hv.toArray.push (Value.int 0 t₇) = (hv ++ [Value.int 0 t₇]).toArray from by simp] at hlh₇
    have hx₇ : (hv ++ [Value.int 0 t₇])[k]? = some (Value.int 0 t₇) := by
      rw [List.getElem?_append_right (by omega), show k - hv.length = 0 from by omega]; rfl
    clear N₆
    k_steps
    refine ⟨rfl, h₇, _, _, news₇, hv ++ [Value.int 0 t₇], c2 + 1, rfl, F₇, N₇, fun q hq h1 h2 => S₇ _ (S₃ _ (S₁ q hq h1)) h2, hlh₇, ?_, ⟨_, _, hK₇, hKd₁⟩, fun z h1 h2 => ?_⟩
    · rw [← ec]
      exact ints_app hiv (.cons 0 t₇ .nil)
    · show (if z = ("noted" : Str) then _ else if z = ("column" : Str) then _ else _) = m z
      rw [if_neg h2, if_neg h1]
      exact known_eq hkn z
  · dsimp only [colText]
    k_steps
    rename_i h₅ F₅ N₅
    show wpAny _ _ _ _ _ _
    refine callWith_K X keep_cl ?_
    refine wpAny_mono (Q := fun us s₂ => Hold (∃ t tk, us = [.str (Str.ofString "x   ") t] ∧ s₂ = { s with heap := h₅, toks := tk })) ?_ ?_ (fun _ _ z => z)
    · k_steps
      exact ⟨_, _, rfl, rfl⟩
    rintro us s₂ ⟨t₅, tk₅, rfl, rfl⟩
    refine ⟨X.keeps F₅.keep, ?_⟩
    refine wpAny_call ?_
    refine c_cl1 (outer := outer) (env := lawEnv w.params L' fa cd) B F₅ X N₅ T hA rfl law_kind hh (by omega) (by omega) ?_
    intro h₆ tk₆ t₆ F₆ N₆
    dsimp only
    clear F₅ N₅
    k_steps
    rename News g L' _ news₃ => N₆
    rename Fr g L' _ _ => F₆
    refine append_at (N₆ _ hlh₃).1 (fun h₇ sb₇ e₇ => ?_) (by have := sizeLine_eq; rw [List.size_toArray]; omega)
    obtain ⟨t₇, e₇⟩ : ∃ t₇, h₇.get? lh = some (listOf (hv.toArray.push (.int 1 t₇)) (c2 + 1)) := ⟨_, e₇⟩
    obtain ⟨F₇, N₇⟩ := upd_news F₆ N₆ hlh₃ (fun b y hb e => sb₇.extBut b y hb e) e₇
    have S₇ := subX_upd (r := lh) (o' := listOf (hv.toArray.push (.int 1 t₇)) (c2 + 1)) (news := news₃)
    have hlh₇ := List.mem_cons_self (a := (lh, listOf (hv.toArray.push (.int 1 t₇)) (c2 + 1))) (l := news₃.filter (fun p => decide (p.1 ≠ lh)))
    have hK₇ := S₇ _ hK₃ (ne_of_cell N₆ hlh₃ hK₃ hKd₁)
    generalize ((lh, listOf (hv.toArray.push (.int 1 t₇)) (c2 + 1)) :: news₃.filter (fun p => decide (p.1 ≠ lh))) = news₇ at N₇ S₇ hlh₇ hK₇
    rw [show hv.toArray.push (Value.int 1 t₇) = (hv ++ [Value.int 1 t₇]).toArray from by simp] at hlh₇
    have hx₇ : (hv ++ [Value.int 1 t₇])[k]? = some (Value.int 1 t₇) := by
      rw [List.getElem?_append_right (by omega), show k - hv.length = 0 from by omega]; rfl
    clear N₆
    k_steps
    refine ⟨rfl, h₇, _, _, news₇, hv ++ [Value.int 1 t₇], c2 + 1, rfl, F₇, N₇, fun q hq h1 h2 => S₇ _ (S₃ _ (S₁ q hq h1)) h2, hlh₇, ?_, ⟨_, _, hK₇, hKd₁⟩, fun z h1 h2 => ?_⟩
    · rw [← ec]
      exact ints_app hiv (.cons 1 t₇ .nil)
    · show (if z = ("noted" : Str) then _ else if z = ("column" : Str) then _ else _) = m z
      rw [if_neg h2, if_neg h1]
      exact known_eq hkn z
  · dsimp only [colText]
    k_steps
    rename_i h₅ F₅ N₅
    show wpAny _ _ _ _ _ _
    refine callWith_K X keep_cl ?_
    refine wpAny_mono (Q := fun us s₂ => Hold (∃ t tk, us = [.str (Str.ofString "xx  ") t] ∧ s₂ = { s with heap := h₅, toks := tk })) ?_ ?_ (fun _ _ z => z)
    · k_steps
      exact ⟨_, _, rfl, rfl⟩
    rintro us s₂ ⟨t₅, tk₅, rfl, rfl⟩
    refine ⟨X.keeps F₅.keep, ?_⟩
    refine wpAny_call ?_
    refine c_cl2 (outer := outer) (env := lawEnv w.params L' fa cd) B F₅ X N₅ T hA rfl law_kind hh (by omega) (by omega) ?_
    intro h₆ tk₆ t₆ F₆ N₆
    dsimp only
    clear F₅ N₅
    k_steps
    rename News g L' _ news₃ => N₆
    rename Fr g L' _ _ => F₆
    refine append_at (N₆ _ hlh₃).1 (fun h₇ sb₇ e₇ => ?_) (by have := sizeLine_eq; rw [List.size_toArray]; omega)
    obtain ⟨t₇, e₇⟩ : ∃ t₇, h₇.get? lh = some (listOf (hv.toArray.push (.int 2 t₇)) (c2 + 1)) := ⟨_, e₇⟩
    obtain ⟨F₇, N₇⟩ := upd_news F₆ N₆ hlh₃ (fun b y hb e => sb₇.extBut b y hb e) e₇
    have S₇ := subX_upd (r := lh) (o' := listOf (hv.toArray.push (.int 2 t₇)) (c2 + 1)) (news := news₃)
    have hlh₇ := List.mem_cons_self (a := (lh, listOf (hv.toArray.push (.int 2 t₇)) (c2 + 1))) (l := news₃.filter (fun p => decide (p.1 ≠ lh)))
    have hK₇ := S₇ _ hK₃ (ne_of_cell N₆ hlh₃ hK₃ hKd₁)
    generalize ((lh, listOf (hv.toArray.push (.int 2 t₇)) (c2 + 1)) :: news₃.filter (fun p => decide (p.1 ≠ lh))) = news₇ at N₇ S₇ hlh₇ hK₇
    rw [show hv.toArray.push (Value.int 2 t₇) = (hv ++ [Value.int 2 t₇]).toArray from by simp] at hlh₇
    have hx₇ : (hv ++ [Value.int 2 t₇])[k]? = some (Value.int 2 t₇) := by
      rw [List.getElem?_append_right (by omega), show k - hv.length = 0 from by omega]; rfl
    clear N₆
    k_steps
    refine ⟨rfl, h₇, _, _, news₇, hv ++ [Value.int 2 t₇], c2 + 1, rfl, F₇, N₇, fun q hq h1 h2 => S₇ _ (S₃ _ (S₁ q hq h1)) h2, hlh₇, ?_, ⟨_, _, hK₇, hKd₁⟩, fun z h1 h2 => ?_⟩
    · rw [← ec]
      exact ints_app hiv (.cons 2 t₇ .nil)
    · show (if z = ("noted" : Str) then _ else if z = ("column" : Str) then _ else _) = m z
      rw [if_neg h2, if_neg h1]
      exact known_eq hkn z
  · dsimp only [colText]
    k_steps
    rename_i h₅ F₅ N₅
    show wpAny _ _ _ _ _ _
    refine callWith_K X keep_cl ?_
    refine wpAny_mono (Q := fun us s₂ => Hold (∃ t tk, us = [.str (Str.ofString "xxx ") t] ∧ s₂ = { s with heap := h₅, toks := tk })) ?_ ?_ (fun _ _ z => z)
    · k_steps
      exact ⟨_, _, rfl, rfl⟩
    rintro us s₂ ⟨t₅, tk₅, rfl, rfl⟩
    refine ⟨X.keeps F₅.keep, ?_⟩
    refine wpAny_call ?_
    refine c_cl3 (outer := outer) (env := lawEnv w.params L' fa cd) B F₅ X N₅ T hA rfl law_kind hh (by omega) (by omega) ?_
    intro h₆ tk₆ t₆ F₆ N₆
    dsimp only
    clear F₅ N₅
    k_steps
    rename News g L' _ news₃ => N₆
    rename Fr g L' _ _ => F₆
    refine append_at (N₆ _ hlh₃).1 (fun h₇ sb₇ e₇ => ?_) (by have := sizeLine_eq; rw [List.size_toArray]; omega)
    obtain ⟨t₇, e₇⟩ : ∃ t₇, h₇.get? lh = some (listOf (hv.toArray.push (.int 3 t₇)) (c2 + 1)) := ⟨_, e₇⟩
    obtain ⟨F₇, N₇⟩ := upd_news F₆ N₆ hlh₃ (fun b y hb e => sb₇.extBut b y hb e) e₇
    have S₇ := subX_upd (r := lh) (o' := listOf (hv.toArray.push (.int 3 t₇)) (c2 + 1)) (news := news₃)
    have hlh₇ := List.mem_cons_self (a := (lh, listOf (hv.toArray.push (.int 3 t₇)) (c2 + 1))) (l := news₃.filter (fun p => decide (p.1 ≠ lh)))
    have hK₇ := S₇ _ hK₃ (ne_of_cell N₆ hlh₃ hK₃ hKd₁)
    generalize ((lh, listOf (hv.toArray.push (.int 3 t₇)) (c2 + 1)) :: news₃.filter (fun p => decide (p.1 ≠ lh))) = news₇ at N₇ S₇ hlh₇ hK₇
    rw [show hv.toArray.push (Value.int 3 t₇) = (hv ++ [Value.int 3 t₇]).toArray from by simp] at hlh₇
    have hx₇ : (hv ++ [Value.int 3 t₇])[k]? = some (Value.int 3 t₇) := by
      rw [List.getElem?_append_right (by omega), show k - hv.length = 0 from by omega]; rfl
    clear N₆
    k_steps
    refine ⟨rfl, h₇, _, _, news₇, hv ++ [Value.int 3 t₇], c2 + 1, rfl, F₇, N₇, fun q hq h1 h2 => S₇ _ (S₃ _ (S₁ q hq h1)) h2, hlh₇, ?_, ⟨_, _, hK₇, hKd₁⟩, fun z h1 h2 => ?_⟩
    · rw [← ec]
      exact ints_app hiv (.cons 3 t₇ .nil)
    · show (if z = ("noted" : Str) then _ else if z = ("column" : Str) then _ else _) = m z
      rw [if_neg h2, if_neg h1]
      exact known_eq hkn z
  · dsimp only [colText]
    k_steps
    rename_i h₅ F₅ N₅
    show wpAny _ _ _ _ _ _
    refine callWith_K X keep_cl ?_
    refine wpAny_mono (Q := fun us s₂ => Hold (∃ t tk, us = [.str (Str.ofString "xxxx") t] ∧ s₂ = { s with heap := h₅, toks := tk })) ?_ ?_ (fun _ _ z => z)
    · k_steps
      exact ⟨_, _, rfl, rfl⟩
    rintro us s₂ ⟨t₅, tk₅, rfl, rfl⟩
    refine ⟨X.keeps F₅.keep, ?_⟩
    refine wpAny_call ?_
    refine c_cl4 (outer := outer) (env := lawEnv w.params L' fa cd) B F₅ X N₅ T hA rfl law_kind hh (by omega) (by omega) ?_
    intro h₆ tk₆ t₆ F₆ N₆
    dsimp only
    clear F₅ N₅
    k_steps
    rename News g L' _ news₃ => N₆
    rename Fr g L' _ _ => F₆
    refine append_at (N₆ _ hlh₃).1 (fun h₇ sb₇ e₇ => ?_) (by have := sizeLine_eq; rw [List.size_toArray]; omega)
    obtain ⟨t₇, e₇⟩ : ∃ t₇, h₇.get? lh = some (listOf (hv.toArray.push (.int 4 t₇)) (c2 + 1)) := ⟨_, e₇⟩
    obtain ⟨F₇, N₇⟩ := upd_news F₆ N₆ hlh₃ (fun b y hb e => sb₇.extBut b y hb e) e₇
    have S₇ := subX_upd (r := lh) (o' := listOf (hv.toArray.push (.int 4 t₇)) (c2 + 1)) (news := news₃)
    have hlh₇ := List.mem_cons_self (a := (lh, listOf (hv.toArray.push (.int 4 t₇)) (c2 + 1))) (l := news₃.filter (fun p => decide (p.1 ≠ lh)))
    have hK₇ := S₇ _ hK₃ (ne_of_cell N₆ hlh₃ hK₃ hKd₁)
    generalize ((lh, listOf (hv.toArray.push (.int 4 t₇)) (c2 + 1)) :: news₃.filter (fun p => decide (p.1 ≠ lh))) = news₇ at N₇ S₇ hlh₇ hK₇
    rw [show hv.toArray.push (Value.int 4 t₇) = (hv ++ [Value.int 4 t₇]).toArray from by simp] at hlh₇
    have hx₇ : (hv ++ [Value.int 4 t₇])[k]? = some (Value.int 4 t₇) := by
      rw [List.getElem?_append_right (by omega), show k - hv.length = 0 from by omega]; rfl
    clear N₆
    k_steps
    refine ⟨rfl, h₇, _, _, news₇, hv ++ [Value.int 4 t₇], c2 + 1, rfl, F₇, N₇, fun q hq h1 h2 => S₇ _ (S₃ _ (S₁ q hq h1)) h2, hlh₇, ?_, ⟨_, _, hK₇, hKd₁⟩, fun z h1 h2 => ?_⟩
    · rw [← ec]
      exact ints_app hiv (.cons 4 t₇ .nil)
    · show (if z = ("noted" : Str) then _ else if z = ("column" : Str) then _ else _) = m z
      rw [if_neg h2, if_neg h1]
      exact known_eq hkn z
end
end Mine
-- M29
namespace Mine
theorem fill29 : PySem.Challenge.rw_wr0007_01 = PySem.Challenge.rw_wr0007_01 ∧ hd.heap_39 = hd.heap_39 := by
  w_top off
  k_fill
  exact ⟨rfl, rfl⟩
local macro_rules | `(tactic| k_room) => `(tactic| ktr_room)
local macro_rules | `(tactic| k_units) => `(tactic| ktr_units)
local macro_rules | `(tactic| walk_at "eval ListComp") => `(tactic| refine stop_it ?_)
-- one line more than M28 has: the walk keeps its lines by their number
local macro_rules | `(tactic| walk_at "exec While BoolOp cons nil") => `(tactic| fail "no such loop here")
local macro_rules | `(tactic| walk_at "callWith ref") => `(tactic| ((with_reducible show wpAny _ _ (callWith _ (Value.ref 126) _ _ _) _ _ _); refine stop_it ?_))
section
variable {w : World} {A₀ A : Around} {base h₀ g : Heap} {outer : List Env} {env : Env} {L L' : Addr} {m mg mb : Str → Option Value} {news : List (Addr × Obj)} {p : Program} {loose : List Str} {mean : ExcName → Option Value}
  {E : Value → Shared → Prop} {R : Result → Shared → Prop} {s : Shared} {fa : Addr} {cd : Value}
theorem keep_sp {P : Params} : keepIn (hd.heap_39 P) (.ref 126) = true := by kernel_rfl
/-- a wish in blanks ahead of an x -/
def spText (n : Int) : Str := Txt.mul (Str.ofString " ") n ++ Str.ofString "x"
theorem sp_len : ∀ n : Nat, n < 26 → (spText n).length = n + 1 := by decide +kernel
theorem sp_at : ∀ n : Nat, n < 26 → ∀ i : Nat, i < n → Txt.item (spText n) i = Str.ofString " " := by decide +kernel
theorem sp_end : ∀ n : Nat, n < 26 → Txt.item (spText n) n = Str.ofString "x" := by decide +kernel
theorem sp_cut : ∀ n : Nat, n < 26 → ∀ k : Nat, k < 5 → Txt.slice (spText n) (some (min n k : Nat)) (some ((n : Int) + 1)) = spText ((n : Int) - (k : Nat)) := by decide +kernel
theorem sp_len2 : ∀ n : Nat, n < 26 → ∀ k : Nat, k < 5 → (spText ((n : Int) - (k : Nat))).length = n - min n k + 1 := by decide +kernel
theorem sp_sum (k : Nat) (hk : k < 5) : ∀ ws : List Int, (∀ n ∈ ws, 0 ≤ n ∧ n < 26) → ((ws.map (fun n => spText (n - (k : Nat)))).map (·.length)).sum = (ws.map (fun n => n.toNat - min n.toNat k + 1)).sum
  | [], _ => rfl
  | n :: ws, h => by
    have h1 := h n (.head _)
    have e := sp_len2 n.toNat (by omega) k hk
    rw [Int.toNat_of_nonneg h1.1] at e
    rw [List.map_cons, List.map_cons, List.map_cons, List.sum_cons, List.sum_cons, e, sp_sum k hk ws (fun a ha => h a (.tail _ ha))]
theorem sp_small (k : Nat) : ∀ ws : List Int, (∀ n ∈ ws, 0 ≤ n ∧ n < 26) → (ws.map (fun n => n.toNat - min n.toNat k + 1)).sum ≤ 27 * ws.length
  | [], _ => Nat.le_refl _
  | n :: ws, h => by
    have h1 := h n (.head _)
    have := sp_small k ws (fun a ha => h a (.tail _ ha))
    rw [List.map_cons, List.sum_cons, List.length_cons]
    omega
theorem sp_fits (k : Nat) (hk : k < 5) (ws : List Int) (h4 : ws.length = 4) (hw : ∀ n ∈ ws, 0 ≤ n ∧ n < 26) : ((ws.map (fun n => spText (n - (k : Nat)))).map (·.length)).sum + (ws.map (fun n => spText (n - (k : Nat)))).length * (Str.ofString "").length ≤ 16777216 := by
  have e3 : (Str.ofString "").length = 0 := by decide +kernel
  have := sp_small k ws hw
  rw [sp_sum k hk ws hw, e3]
  omega
theorem join_len : ∀ ts : List Str, (Txt.join (Str.ofString "") ts).length = (ts.map (·.length)).sum
  | [] => by decide +kernel
  | [x] => by
    show (Builtin.Str.glued _ _).length = _
    rw [StrLaws.glued_eq_join]
    show x.length = _
    simp
  | x :: y :: r => by
    have ih := join_len (y :: r)
    unfold Txt.join at ih ⊢
    rw [StrLaws.glued_eq_join] at ih ⊢
    have e3 : (Str.ofString "").length = 0 := by decide +kernel
    have e : Str.join (Str.ofString "") (x :: y :: r) = x ++ Str.ofString "" ++ Str.join (Str.ofString "") (y :: r) := rfl
    have e4 : ((x :: y :: r).map (·.length)).sum = x.length + ((y :: r).map (·.length)).sum := by rw [List.map_cons, List.sum_cons]
    rw [e, Str.length_append, Str.length_append, e3, ih, e4]
    omega
theorem ne_same {x : Str} {t u : Tok} {Q : Value → Shared → Prop} (h : Q (.bool false) s) : wpAny (model P0 w) A (compareOp .NotEq (.str x t) (.str x u)) Q E s := PyProof.Rows.ne_str (by rw [show (x != x) = false by simp]; exact h)
local macro_rules | `(tactic| walk_at "compareOp NotEq str str") => `(tactic| refine ne_same ?_)
theorem sp_join (k : Nat) (hk : k < 5) (ws : List Int) (hw : ∀ n ∈ ws, 0 ≤ n ∧ n < 26) : (Txt.join (Str.ofString "") (ws.map (fun n => spText (n - (k : Nat))))).length = (ws.map (fun n => n.toNat - min n.toNat k + 1)).sum := by
  rw [← sp_sum k hk ws hw]
  exact join_len _
theorem slice_to {value slice : PySem.Expr} {l : Addr} {its : Array Value} {n : Nat} {y : Int} {t' : Tok} {Q : Value → Shared → Prop}
    (F : Fr g L s.heap m) (N : News g L s.heap news) (hl : (l, listOf its n) ∈ news) (hy : 0 ≤ y) (hz : its.size ≤ sizeLine)
    (h : ∀ D h', Fr g L h' m → News g L h' ((D, listOf (its.toList.take y.toNat).toArray 0) :: news) → (∀ p ∈ news, p.1 < D) → Q (.ref D) { s with heap := h' })
    (hs : subscripted slice false (.ref l) (.ref s.heap.objs.size) = operate [.ref s.heap.objs.size, .ref l] (getItem (.ref l) (.ref s.heap.objs.size))) (ht : ∀ r, letTemporaryGo value (.ref l) r = pure ()) :
    wpAny (model P0 w) A (subscriptTail value slice (.ref l) (.ref s.heap.objs.size)) Q E { s with heap := s.heap.push { cls := .type "slice", data := .fields #[.none, .int y t', .none] } } := by
  refine kmk_slice F N ⟨_, (N _ hl).1, rfl, _, rfl⟩ .none (.int y t') (fun D h' F' N' l1 => h D h' F' ?_ l1) hs ht hz
  have e : sliceBounds none (some y) none its.size = (((0 : Nat) : Int), ((min y.toNat its.size : Nat) : Int), 1) := by
    simp only [sliceBounds, Option.getD_none, show (1 : Int) > 0 by decide, if_true, if_neg (show ¬ (y < 0) by omega)]
    congr 1
    congr 1
    omega
  rw [kmk_pick_nat _ e] at N'
  have e2 : (its.toList.drop 0).take (min y.toNat its.size - 0) = its.toList.take y.toNat := by
    rw [List.drop_zero, Nat.sub_zero, ← Array.length_toList]
    by_cases hx' : y.toNat ≤ its.toList.length
    · rw [Nat.min_eq_left hx']
    · rw [Nat.min_eq_right (by omega), List.take_length, List.take_of_length_le (by omega)]
  rw [e2] at N'
  exact N'
local macro_rules | `(tactic| walk_at "subscriptTail Name Slice ref ref") => `(tactic| ((with_reducible show wpAny _ _ (subscriptTail _ (Expr.Slice _ (some _) _ _) (Value.ref _) (Value.ref _)) _ _ _); refine stop_it ?_))
theorem ints_take : ∀ {us : List Value} {ps : List Int}, IntsAre us ps → ∀ k, IntsAre (us.take k) (ps.take k)
  | _, _, .nil, k => by rw [List.take_nil, List.take_nil]; exact .nil
  | _, _, .cons n t h, 0 => .nil
  | _, _, .cons n t h, k + 1 => .cons n t (ints_take h k)
set_option maxHeartbeats 1000000 in
theorem t_sum (B : Below A₀ base outer g) (hA : A.frames = some (lawEnv w.params L' fa cd :: outer)) (hD : A.depth + 110 < recursionLimit) (hU : A.units + 110 < cLine) (F : Fr g L' s.heap m) (N : News g L' s.heap news) (X : (hd.heap_39 w.params).In g) (T : Top p loose mean mg mb g) {k : Nat} {u : Tok} {lw lo lh ls : Addr} {wv rv hv sv : List Value} {ws cs hs ss : List Int} {c c2 c3 c4 : Nat} {oK : Obj} {v₀ : Option Value} (hk5 : k < 5) (hh : A.handled = none)
    (hmw : m "wishes" = some (.ref lw)) (hmo : m "rooms" = some (.ref lo)) (hmh : m "heights" = some (.ref lh)) (hms : m "sums" = some (.ref ls))
    (hlw : (lw, listOf wv.toArray c) ∈ news) (hiw : IntsAre wv ws) (hlo : (lo, listOf rv.toArray c2) ∈ news) (hir : IntsAre rv cs) (hlh : (lh, listOf hv.toArray c3) ∈ news) (hih : IntsAre hv hs) (hls : (ls, listOf sv.toArray c4) ∈ news) (his : IntsAre sv ss)
    (hws : ws.length = 4) (hcs : cs.length = 4) (hhs : hs.length = 4) (hss : ss.length ≤ 5) (hw26 : ∀ n ∈ ws, 0 ≤ n ∧ n < 26)
    (hK : (L' + 1, oK) ∈ news) (hKd : oK.data = .cell v₀) {total : Int} (hsh : ws.sum + 4 - (((ws.map (fun n => n.toNat - min n.toNat k + 1)).sum : Nat) : Int) = (hs.take k).sum) (htot : ∀ scs : List Int, scs.Perm cs → scs.Pairwise (· ≤ ·) → (hs.take k).sum + (scs.take (4 - k)).sum = total) :
    wpAny (model P0 w) A (storeName (lawEnv w.params L' fa cd) "k" (.int (k : Int) u)) (fun _ s₂ => wpAny (model P0 w) A (execs (forBody ((lawBody w.params).drop 10)) (lawEnv w.params L' fa cd)) (fun f s₃ => Hold (TurnEnd "bared" "share" g L' s m news ls (ss ++ [total]) f s₃)) E s₂) E s := by
  obtain ⟨hnd, dp, fr, gd, un⟩ := A
  dsimp only at hA hD hU hh
  subst hA
  subst hh
  refine st_cell F N (by rfl) hK hKd ?_
  intro h₁ o₁ news₁ F₁ N₁ S₁ hK₁ hKd₁
  show wpAny _ _ (execs _ (envOfC _ (Scope.mk _ _ _ _ _) _ _ _)) _ _ _
  refine wpAny_execs_cons ?_
  have hkn : ∀ q ∈ ([("wishes", .ref lw), ("rooms", .ref lo), ("heights", .ref lh), ("sums", .ref ls)] : List (Str × Value)), m q.1 = some q.2 := by
    intro q hq
    rcases List.mem_cons.mp hq with rfl | hq
    · exact hmw
    · rcases List.mem_cons.mp hq with rfl | hq
      · exact hmo
      · rcases List.mem_cons.mp hq with rfl | hq
        · exact hmh
        · rcases List.mem_cons.mp hq with rfl | hq
          · exact hms
          · cases hq
  have F₂ := fr_known F₁ _ hkn
  clear F₁
  k_steps
  show wpAny _ _ _ _ _ _
  have hlw₁ := S₁ _ hlw (Ne.symm (ne_of_cell N hlw hK hKd))
  have hlo₁ := S₁ _ hlo (Ne.symm (ne_of_cell N hlo hK hKd))
  have hlh₁ := S₁ _ hlh (Ne.symm (ne_of_cell N hlh hK hKd))
  have hls₁ := S₁ _ hls (Ne.symm (ne_of_cell N hls hK hKd))
  refine' comp_text (cl := [("k", L' + 1)]) (fun n => spText (n - (k : Nat))) F₂ N₁ ?hh hlw₁ hiw ?hsz ?hclos ?hcell ?hkind ?hnames ?hx ?hiter ?turn ?_ (by intro _; rfl)
  case hh => rfl
  case hsz => omega
  case hclos => with_unfolding_all rfl
  case hcell => decide
  case hkind => rfl
  case hnames => decide
  case hx => rfl
  case hiter =>
    intro Q' hq
    k_steps
    exact hq
  case turn =>
    intro n t C oC m₂ h₂ tk₂ news₂ E₂ hn hC hxv F₃ N₃ hCm S₂
    have hK₂ := S₂ _ hK₁
    clear F₂ N₁ F N hK₁ S₂ S₁ hK
    obtain ⟨hn0, hn26⟩ := hw26 n hn
    obtain ⟨a, rfl⟩ : ∃ a : Nat, n = a := ⟨n.toNat, (Int.toNat_of_nonneg hn0).symm⟩
    k_steps
    show wpAny _ _ _ _ _ _
    refine callWith_K X keep_sp ?_
    refine wpAny_mono (Q := fun us s₂ => Hold (∃ t tk, us = [.str (spText a) t, .int (k : Int) u] ∧ s₂ = { s with heap := h₂, toks := tk })) ?_ ?_ (fun _ _ z => z)
    · k_steps
      exact ⟨_, _, rfl, rfl⟩
    rintro us s₂ ⟨t₅, tk₅, rfl, rfl⟩
    refine ⟨X.keeps F₃.keep, ?_⟩
    refine wpAny_call ?_
    refine c_sp (n := a) (k := k) (outer := outer) (env := lawEnv w.params L' fa cd) B F₃ X N₃ T rfl rfl law_kind rfl (by dsimp only; omega) (by dsimp only; omega) (sp_len a (by omega)) (by omega) (by omega) (sp_at a (by omega)) (sp_end a (by omega)) ?_
    intro h₆ tk₆ t₆ F₆ N₆
    refine ⟨h₆, tk₆, t₆, ?_, rfl, F₆, N₆⟩
    rw [sp_cut a (by omega) k (by omega)]
  intro D h₃ tk₃ ys hys F₃ N₃
  clear F₂ N₁
  obtain ⟨news₃, N₄, S₃, hD₃⟩ : ∃ news₃, News g L' h₃ news₃ ∧ Sub news₁ news₃ ∧ (D, listOf ys.toArray ys.length) ∈ news₃ := ⟨_, N₃, fun q hq => .tail _ hq, .head _⟩
  clear N₃
  have hlw₃ := S₃ _ hlw₁
  have hlo₃ := S₃ _ hlo₁
  have hlh₃ := S₃ _ hlh₁
  have hls₃ := S₃ _ hls₁
  have hK₃ := S₃ _ hK₁
  k_steps
  refine join_list (items := ys.toArray) ⟨_, (N₄ _ hD₃).1, rfl, _, rfl⟩ hys (sp_fits k hk5 ws hws hw26) ?_
  intro t₄ tk₄
  clear hys hD₃
  obtain ⟨J, hJ, hJe⟩ : ∃ J, J = Txt.join (Str.ofString "") (ws.map (fun n => spText (n - (k : Nat)))) ∧ J.length = (ws.map (fun n => n.toNat - min n.toNat k + 1)).sum := ⟨_, rfl, sp_join k hk5 ws hw26⟩
  rw [← hJ]
  have hJ108 : J.length ≤ 108 := by
    have := sp_small k ws hw26
    omega
  k_steps
  show wpAny _ _ _ _ _ _
  rename News g L' _ news₃ => N₅
  rename Fr g L' _ _ => F₅
  refine' comp_text (cl := [("k", L' + 1)]) (fun n => spText (n - (k : Nat))) F₅ N₅ ?hh hlw₃ hiw ?hsz ?hclos ?hcell ?hkind ?hnames ?hx ?hiter ?turn ?_ (by intro _; rfl)
  case hh => rfl
  case hsz => omega
  case hclos => with_unfolding_all rfl
  case hcell => decide
  case hkind => rfl
  case hnames => decide
  case hx => rfl
  case hiter =>
    intro Q' hq
    k_steps
    exact hq
  case turn =>
    intro n t C oC m₂ h₂ tk₂ news₂ E₂ hn hC hxv F₆ N₆ hCm S₂
    have hK₂ := S₂ _ hK₃
    clear F₅ N₅ hK₁ hK₃ S₂ S₁ S₃ hK
    obtain ⟨hn0, hn26⟩ := hw26 n hn
    obtain ⟨a, rfl⟩ : ∃ a : Nat, n = a := ⟨n.toNat, (Int.toNat_of_nonneg hn0).symm⟩
    k_steps
    exact ⟨_, _, _, rfl, rfl, by assumption, by assumption⟩
  intro D₂ h₆ tk₆ ys₂ hys₂ F₆ N₆
  clear F₅ N₅
  obtain ⟨news₆, N₇, S₆, hD₆⟩ : ∃ news₆, News g L' h₆ news₆ ∧ Sub news₃ news₆ ∧ (D₂, listOf ys₂.toArray ys₂.length) ∈ news₆ := ⟨_, N₆, fun q hq => .tail _ hq, .head _⟩
  clear N₆
  have hlw₆ := S₆ _ hlw₃
  have hlo₆ := S₆ _ hlo₃
  have hlh₆ := S₆ _ hlh₃
  have hls₆ := S₆ _ hls₃
  have hK₆ := S₆ _ hK₃
  k_steps
  refine join_list (items := ys₂.toArray) ⟨_, (N₇ _ hD₆).1, rfl, _, rfl⟩ hys₂ (sp_fits k hk5 ws hws hw26) ?_
  intro t₇ tk₇
  rw [← hJ]
  clear hys₂ hD₆ hJ
  k_steps
  rename News g L' _ news₆ => N₈
  rename Fr g L' _ _ => F₈
  refine sumK rfl F₈ N₈ ⟨_, (N₈ _ hlw₆).1, rfl, _, rfl⟩ hiw ?_
  intro h₉ tk₉ t₉ F₉ N₉
  clear F₈ N₈
  k_steps
  show wpAny _ _ _ _ _ _
  rename News g L' _ news₆ => N₁₀
  rename Fr g L' _ _ => F₁₀
  have hvk : hv.length = 4 := hih.length.trans hhs
  refine slice_to (s := { s with heap := _, toks := _ }) F₁₀ N₁₀ hlh₆ (by omega) (by have := sizeLine_eq; rw [List.size_toArray]; omega) ?_ (by with_unfolding_all rfl) (fun _ => rfl)
  intro D₃ h₁₁ F₁₁ N₁₁ l₁₁
  dsimp only at F₁₁ N₁₁
  obtain ⟨news₁₁, N₁₂, S₁₁, hD₁₁⟩ : ∃ newsX, News g L' h₁₁ newsX ∧ Sub news₆ newsX ∧ (D₃, listOf (hv.take k).toArray 0) ∈ newsX := ⟨_, N₁₁, fun q hq => .tail _ hq, .head _⟩
  clear N₁₁ N₁₀ F₁₀
  have hlo₁₁ := S₁₁ _ hlo₆
  have hls₁₁ := S₁₁ _ hls₆
  have hK₁₁ := S₁₁ _ hK₆
  k_steps
  refine sumK rfl F₁₁ N₁₂ ⟨_, (N₁₂ _ hD₁₁).1, rfl, _, rfl⟩ (ints_take hih k) ?_
  intro h₁₂ tk₁₂ t₁₂ F₁₂ N₁₃
  clear F₁₁ N₁₂
  rw [← hsh, ← hJe]
  k_steps
  · exfalso; omega
  rename News g L' _ news₁₁ => N₁₄
  rename Fr g L' _ _ => F₁₄
  refine kso_sorted F₁₄ N₁₄ ⟨_, (N₁₄ _ hlo₁₁).1, rfl, _, rfl⟩ hir (by omega) ?_
  intro D₄ ov scs c₄ h₁₅ F₁₅ N₁₅ l₁₅ hio hlen hperm hpw _
  obtain ⟨news₁₅, N₁₆, S₁₅, hD₁₅⟩ : ∃ newsX, News g L' h₁₅ newsX ∧ Sub news₁₁ newsX ∧ (D₄, listOf ov.toArray c₄) ∈ newsX := ⟨_, N₁₅, fun q hq => .tail _ hq, .head _⟩
  clear N₁₅ N₁₄ F₁₄
  have hls₁₅ := S₁₅ _ hls₁₁
  have hK₁₅ := S₁₅ _ hK₁₁
  k_steps
  show wpAny _ _ _ _ _ _
  have hov : ov.length = 4 := hio.length.trans (hlen.trans hcs)
  refine slice_to (s := { s with heap := _, toks := _ }) F₁₅ N₁₆ hD₁₅ (by omega) (by have := sizeLine_eq; rw [List.size_toArray]; omega) ?_ (by with_unfolding_all rfl) (fun _ => rfl)
  intro D₅ h₁₇ F₁₇ N₁₇ l₁₇
  dsimp only at F₁₇ N₁₇
  obtain ⟨news₁₇, N₁₈, S₁₇, hD₁₇⟩ : ∃ newsX, News g L' h₁₇ newsX ∧ Sub news₁₅ newsX ∧ (D₅, listOf (ov.take (4 - (k : Int)).toNat).toArray 0) ∈ newsX := ⟨_, N₁₇, fun q hq => .tail _ hq, .head _⟩
  clear N₁₇ N₁₆ F₁₅
  have hls₁₇ := S₁₇ _ hls₁₅
  have hK₁₇ := S₁₇ _ hK₁₅
  k_steps
  refine sumK rfl F₁₇ N₁₈ ⟨_, (N₁₈ _ hD₁₇).1, rfl, _, rfl⟩ (ints_take hio (4 - (k : Int)).toNat) ?_
  intro h₁₈ tk₁₈ t₁₈ F₁₈ N₁₉
  clear F₁₇ N₁₈
  have htt := htot scs hperm hpw
  rw [← hsh, ← hJe, show 4 - k = (4 - (k : Int)).toNat by omega] at htt
  k_steps
  rw [htt]
  rename News g L' _ news₁₇ => N₂₀
  rename Fr g L' _ _ => F₂₀
  have hsv : sv.length = ss.length := his.length
  refine append_at (N₂₀ _ hls₁₇).1 (fun h₂₁ sb₂₁ e₂₁ => ?_) (by have := sizeLine_eq; rw [List.size_toArray]; omega)
  obtain ⟨t₂₁, e₂₁⟩ : ∃ t₂₁, h₂₁.get? ls = some (listOf (sv.toArray.push (.int total t₂₁)) (c4 + 1)) := ⟨_, e₂₁⟩
  obtain ⟨F₂₁, N₂₁⟩ := upd_news F₂₀ N₂₀ hls₁₇ (fun b y hb e => sb₂₁.extBut b y hb e) e₂₁
  have S₂₁ := subX_upd (r := ls) (o' := listOf (sv.toArray.push (.int total t₂₁)) (c4 + 1)) (news := news₁₇)
  have hls₂₁ := List.mem_cons_self (a := (ls, listOf (sv.toArray.push (.int total t₂₁)) (c4 + 1))) (l := news₁₇.filter (fun p => decide (p.1 ≠ ls)))
  have hK₂₁ := S₂₁ _ hK₁₇ (ne_of_cell N₂₀ hls₁₇ hK₁₇ hKd₁)
  generalize ((ls, listOf (sv.toArray.push (.int total t₂₁)) (c4 + 1)) :: news₁₇.filter (fun p => decide (p.1 ≠ ls))) = news₂₁ at N₂₁ S₂₁ hls₂₁ hK₂₁
  rw [show sv.toArray.push (Value.int total t₂₁) = (sv ++ [Value.int total t₂₁]).toArray from by simp] at hls₂₁
  clear N₂₀
  k_steps
  refine ⟨rfl, h₂₁, _, _, news₂₁, sv ++ [Value.int total t₂₁], c4 + 1, rfl, F₂₁, N₂₁, fun q hq h1 h2 => S₂₁ _ (S₁₇ _ (S₁₅ _ (S₁₁ _ (S₆ _ (S₃ _ (S₁ q hq h1)))))) h2, hls₂₁, ints_app his (.cons total t₂₁ .nil), ⟨_, _, hK₂₁, hKd₁⟩, fun z h1 h2 => ?_⟩
  show (if z = ("share" : Str) then _ else if z = ("bared" : Str) then _ else _) = m z
  rw [if_neg h2, if_neg h1]
  exact known_eq hkn z
end
end Mine
-- M30
namespace Mine
section
variable {w : World} {A₀ A : Around} {base h₀ g : Heap} {outer : List Env} {env : Env} {L L' : Addr} {m mg mb : Str → Option Value} {news : List (Addr × Obj)} {p : Program} {loose : List Str} {mean : ExcName → Option Value}
  {E : Value → Shared → Prop} {R : Result → Shared → Prop} {s : Shared}
theorem any_rep (n : Nat) : (List.replicate n (Value.bool true)).toArray.any (fun _ => false) = false := by
  rw [← Array.any_toList, List.any_eq_false]
  intro x _
  simp
/-- False in a list of True's -/
theorem in_false {l : Addr} {n c : Nat} {Q : Value → Shared → Prop} (N : News g L s.heap news) (hm : (l, listOf (List.replicate n (Value.bool true)).toArray c) ∈ news) (h : Q (.bool false) s) :
    wpAny (model P0 w) A (compareOp .In (.bool false) (.ref l)) Q E s := by
  refine SeqAt.in_listAt (fun _ => false) (PySem.IsL.isList (n := c) (N _ hm).1) (fun y hy => ?_) (by rw [any_rep]; exact h)
  have e : y = .bool true := by
    have := Array.mem_toList_iff.mpr hy
    exact List.eq_of_mem_replicate (by simpa using this)
  subst e
  exact SeqAt.EqAt.bool_bool true false
/-- a list comprehension that gives ints -/
theorem comp_nums {elt iter : PySem.Expr} {x : Str} {px pos : Pos} {scope : Scope} {cl : List (Str × Addr)} {Q : Value → Shared → Prop} {l : Addr} {vs : List Value} {c : Nat} (f : Nat → Int)
    (F : Fr h₀ L s.heap m) (N : News h₀ L s.heap news) (hh : A.handled = none) (hl : (l, listOf vs.toArray c) ∈ news) (hsz : vs.length ≤ 1000)
    (hclos : closureFor scope env = pure cl) (hcell : ∀ y ∈ scope.names, y.2 ≠ .cell) (hkind : scope.kind = .function)
    (hnames : ∀ y ∈ scope.names, y.2 = .local → scope.names.lookup y.1 = some .local) (hx : scope.names.lookup x = some .local)
    (hiter : ∀ Q' : Value → Shared → Prop, Q' (.ref l) s → wpAny (model P0 w) A (eval iter env) Q' E s)
    (turn : ∀ i v C oC m₂ h tk news' (E' : Value → Shared → Prop), vs[i]? = some v → LCg.NsObj oC m₂ → m₂ x = some v → Fr h₀ L h m → News h₀ L h news' → (C, oC) ∈ news' → Sub news news' →
      wpAny (model P0 w) A (eval elt (compEnvC scope cl C env)) (fun y s₂ => Hold (∃ h' tk' t', y = .int (f i) t' ∧ s₂ = { s with heap := h', toks := tk' } ∧ Fr h₀ L h' m ∧ News h₀ L h' news')) E' { s with heap := h, toks := tk })
    (h : ∀ D h' tk ys, IntsAre ys ((List.range vs.length).map f) → Fr h₀ L h' m → News h₀ L h' ((D, listOf ys.toArray ys.length) :: news) → Q (.ref D) { s with heap := h', toks := tk })
    (hs : ∀ x, foldedSetIterable iter env x = pure x := by intro _; rfl) :
    wpAny (model P0 w) A (eval (.ListComp elt [⟨.Name x px, iter, [], 0⟩] scope pos) env) Q E s := by
  have hsl : vs.toArray.size ≤ sizeLine := by
    have := sizeLine_eq
    rw [List.size_toArray]; omega
  refine LCg.ListComp_U F hclos hcell hkind hnames hx (hiter _ (LCg.CompSrc.ledger hh F N hl hsl fun g' => ?_)) hs
  have key : ∀ (j i : Nat) (ys : List Value), i + j = vs.length → IntsAre ys ((List.range i).map f) →
      LCg.CompRest P0 w A h₀ L m env elt x scope cl { s with heap := g' } (LCg.SrcAt h₀ l vs.toArray) (fun i v => vs.toArray[i]? = some v) (LCg.FinE h₀ L m { s with heap := g' } Q) j i ys news := by
    intro j
    induction j with
    | zero =>
      intro i ys hij hy
      have e : i = vs.length := by omega
      subst e
      refine LCg.CompRest.zero fun D h' tk F' N' _ => ?_
      exact h D h' tk ys hy F' N'
    | succ j ih =>
      intro i ys hij hy
      refine LCg.CompRest.succ ?_
      intro v I oI C oC D m₂ h2 tk E' hv hC hxv F' N' off ne
      refine wpAny_mono (turn i v C oC m₂ h2 tk _ E' (by simpa using hv) hC hxv F' N' (.tail _ (.head _)) fun q hq => .tail _ (.tail _ (.tail _ hq))) (fun y s₂ hq => ?_) fun _ _ e => e
      obtain ⟨h', tk', t', rfl, e, F₂, N₂⟩ := hq
      refine ⟨h', tk', news, e, F₂, N₂, off, .inr ⟨_, hl, rfl, _, rfl⟩, ?_⟩
      refine ih (i + 1) _ (by omega) ?_
      rw [List.range_succ, List.map_append]
      exact ints_app hy (.cons _ _ .nil)
  have := key vs.length 0 [] (by omega) .nil
  have e : vs.toArray.size = vs.length := by rw [List.size_toArray]
  rw [e]
  exact this
end
end Mine
-- M31
namespace Mine
theorem fill31 : PySem.Challenge.rw_wr0007_01 = PySem.Challenge.rw_wr0007_01 ∧ hd.heap_39 = hd.heap_39 := by
  w_top off
  k_fill
  exact ⟨rfl, rfl⟩
local macro_rules | `(tactic| k_room) => `(tactic| ktr_room)
local macro_rules | `(tactic| k_units) => `(tactic| ktr_units)
section
variable {w : World} {A₀ A : Around} {base h₀ g : Heap} {outer : List Env} {env : Env} {L L' : Addr} {m mg mb : Str → Option Value} {news : List (Addr × Obj)} {p : Program} {loose : List Str} {mean : ExcName → Option Value}
  {E : Value → Shared → Prop} {R : Result → Shared → Prop} {s : Shared} {fa : Addr} {cd : Value}
abbrev rIter (i : Nat) (n : Nat) : Obj := { cls := .type "range_iterator", data := .fields #[rawInt (0 + (i : Int) * 1), rawInt ((n : Int) - (i : Int)), rawInt 1] }
/-- a for over range(n) that grows a list of ints by one a turn -/
theorem k_loop {x1 x2 : Str} {n : Nat} {px : Pos} {body : List Stmt} {I l : Addr} {f : Nat → Int} {c : Nat} {oK : Obj} {v₀ : Option Value} (hh : A.handled = none) (F : Fr g L' s.heap m) (N : News g L' s.heap news)
    (hI : (I, rIter 0 n) ∈ news) (hl : (l, listOf #[] c) ∈ news) (hK : (L' + 1, oK) ∈ news) (hKd : oK.data = .cell v₀)
    (turn : ∀ (i : Nat) (s₁ : Shared) m₁ news₁ us c₁ oK₁ v₁ (u : Tok) (E' : Value → Shared → Prop), i < n → Fr g L' s₁.heap m₁ → News g L' s₁.heap news₁ → (∀ z : Str, z ≠ x1 → z ≠ x2 → m₁ z = m z) → (∀ q ∈ news, q.1 ≠ L' + 1 → q.1 ≠ l → q.1 ≠ I → q ∈ news₁) →
      (l, listOf (List.toArray us) c₁) ∈ news₁ → IntsAre us ((List.range i).map f) → (L' + 1, oK₁) ∈ news₁ → oK₁.data = .cell v₁ →
      wpAny (model P0 w) A (storeName env "k" (.int (i : Int) u)) (fun _ s₂ => wpAny (model P0 w) A (execs body env) (fun fl s₃ => Hold (TurnEnd x1 x2 g L' s₁ m₁ news₁ l ((List.range i).map f ++ [f i]) fl s₃)) E' s₂) E' s₁)
    (done : ∀ h' tk' m' news' us c' oK' v', Fr g L' h' m' → News g L' h' news' → (∀ z : Str, z ≠ x1 → z ≠ x2 → m' z = m z) → (∀ q ∈ news, q.1 ≠ L' + 1 → q.1 ≠ l → q.1 ≠ I → q ∈ news') →
      (l, listOf (List.toArray us) c') ∈ news' → IntsAre us ((List.range n).map f) → (L' + 1, oK') ∈ news' → oK'.data = .cell v' → R (.ok .next) { s with heap := h', toks := tk' }) :
    codeAny (model P0 w) A (.forLoop (.Name "k" px) (.ref I) body [] env) R s := by
  have nIl : I ≠ l := ne_of_cls N hI hl (by simp)
  have nIK : I ≠ L' + 1 := by
    intro e
    have e1 := (N _ hI).1
    have e2 := (N _ hK).1
    dsimp only at e1 e2
    rw [e, e2] at e1
    rw [Option.some.inj e1] at hKd
    cases hKd
  refine for_any (Walks.range (prog := P0) (w := w) hh I 0 1 n) (fun i s₁ => ∃ h' tk' m' news' us c' oK' v', s₁ = { s with heap := h', toks := tk' } ∧ Fr g L' h' m' ∧ News g L' h' news' ∧ (∀ z : Str, z ≠ x1 → z ≠ x2 → m' z = m z) ∧ (∀ q ∈ news, q.1 ≠ L' + 1 → q.1 ≠ l → q.1 ≠ I → q ∈ news') ∧
      (I, rIter i n) ∈ news' ∧ (l, listOf (List.toArray us) c') ∈ news' ∧ IntsAre us ((List.range i).map f) ∧ (L' + 1, oK') ∈ news' ∧ oK'.data = .cell v') ?_ ?_ ?_ ?_
  · rintro i s₁ ⟨h', tk', m', news', us, c', oK', v', rfl, F', N', -, -, hI', -⟩
    exact (N' _ hI').1
  · exact ⟨_, s.toks, m, news, [], c, oK, v₀, rfl, F, N, fun _ _ _ => rfl, fun q hq _ _ _ => hq, hI, hl, .nil, hK, hKd⟩
  · rintro i s₁ v hA tkA E' hin ⟨h', tk', m', news', us, c', oK', v', rfl, F', N', hm', S', hI', hl', hi', hK', hKd'⟩ hP hst hkeep
    obtain ⟨FA, NA⟩ := upd_news F' N' hI' (fun b y hb e => hkeep b y (by simpa using hb) e) hst
    have SA := subX_upd (r := I) (o' := rIter (i + 1) n) (news := news')
    have hIA := List.mem_cons_self (a := (I, rIter (i + 1) n)) (l := news'.filter (fun p => decide (p.1 ≠ I)))
    generalize ((I, rIter (i + 1) n) :: news'.filter (fun p => decide (p.1 ≠ I))) = newsA at NA SA hIA
    obtain ⟨tv, rfl⟩ := hP
    rw [show (0 : Int) + (i : Int) * 1 = (i : Int) by omega]
    have t := turn i { s with heap := hA, toks := tkA } m' newsA us c' oK' v' tv E' hin FA NA hm' (fun q hq h1 h2 h3 => SA _ (S' q hq h1 h2 h3) h3) (SA _ hl' (Ne.symm nIl)) hi' (SA _ hK' (Ne.symm nIK)) hKd'
    refine wpAny_mono t (fun _ s₂ h₂ => wpAny_mono h₂ (fun fl s₃ h₃ => ?_) fun _ _ e => e) fun _ _ e => e
    obtain ⟨hf, h2, tk2, m2, news2, us2, c2, e2, F2, N2, S2, hl2, hi2, ⟨oK2, v2, hK2, hKd2⟩, hm2⟩ := h₃
    refine ⟨hf, h2, tk2, m2, news2, us2, c2, oK2, v2, e2, F2, N2, fun z h1 h2 => (hm2 z h1 h2).trans (hm' z h1 h2), fun q hq h1 h2 h3 => S2 q (SA _ (S' q hq h1 h2 h3) h3) h1 h2, S2 _ hIA nIK nIl, hl2, ?_, hK2, hKd2⟩
    rw [List.range_succ, List.map_append]
    exact hi2
  · rintro s₁ hA tkA ⟨h', tk', m', news', us, c', oK', v', rfl, F', N', hm', S', hI', hl', hi', hK', hKd'⟩ hkeep
    obtain ⟨FA, NA⟩ := drop_news F' N' hI' (fun b y hb e => hkeep b y (by simpa using hb) e)
    have SA := subX_drop (r := I) (news := news')
    exact done hA tkA m' _ us c' oK' v' FA NA hm' (fun q hq h1 h2 h3 => SA _ (S' q hq h1 h2 h3) h3) (SA _ hl' (Ne.symm nIl)) hi' (SA _ hK' (Ne.symm nIK)) hKd'
end
end Mine
-- M32
namespace Mine
theorem fill32 : PySem.Challenge.rw_wr0007_01 = PySem.Challenge.rw_wr0007_01 ∧ hd.heap_39 = hd.heap_39 := by
  w_top off
  k_fill
  exact ⟨rfl, rfl⟩
local macro_rules | `(tactic| k_room) => `(tactic| ktr_room)
local macro_rules | `(tactic| k_units) => `(tactic| ktr_units)
local macro_rules | `(tactic| walk_at "eval ListComp") => `(tactic| refine stop_it ?_)
local macro_rules | `(tactic| walk_at "getMethod ref") => `(tactic| ((with_reducible show wpAny _ _ (getMethod (Value.ref _) (Str.ofString "part_count") _) _ _ _); refine stop_it ?_))
local macro_rules | `(tactic| walk_at "exec For Name Call cons nil") => `(tactic| refine stop_it ?_)
section
variable {w : World} {A₀ A : Around} {base h₀ g : Heap} {outer : List Env} {env : Env} {L L' : Addr} {m mg mb : Str → Option Value} {news : List (Addr × Obj)} {p : Program} {loose : List Str} {mean : ExcName → Option Value}
  {E : Value → Shared → Prop} {R : Result → Shared → Prop} {s : Shared} {fa : Addr} {cd : Value}
theorem small_range : ∀ n : Nat, n < 6 → Builtin.Range.small 0 (n : Int) 1 = true ∧ Builtin.Range.rangeSize 0 (n : Int) 1 = (n : Int) := by decide +kernel
theorem range_getD (rs : List Addr) (f : Addr → Int) : (List.range (rs.map Value.ref).length).map (fun i => (rs.map f).getD i 0) = rs.map f := by
  apply List.ext_getElem
  · simp
  · intro i h1 h2
    rw [List.getElem_map, List.getElem_range, List.getD_eq_getElem?_getD, List.getElem?_eq_getElem h2]
    rfl
theorem RowIn.data {news news' : List (Addr × Obj)} {r : Addr} {n : Nat} (hx : ∀ a o, (a, o) ∈ news → (∀ v, o.data ≠ .cell v) → (a, o) ∈ news') (R : RowIn w news r n) : RowIn w news' r n := by
  obtain ⟨d, items, ep, t, t', h1, h2, h3, h4⟩ := R
  obtain ⟨Ts, t1, t2, k⟩ := h4
  exact ⟨d, items, ep, t, t', hx _ _ h1 (fun v e => by cases e), hx _ _ h2 (fun v e => by cases e), h3, Ts, t1, t2, fun j hj => ⟨(k j hj).1, hx _ _ (k j hj).2 (fun v e => by cases e)⟩⟩
theorem ne_cell_data {h : Heap} {a b : Addr} {o ob : Obj} {v : Option Value} (N : News g L' h news) (ha : (a, o) ∈ news) (hd : ∀ v, o.data ≠ .cell v) (hb : (b, ob) ∈ news) (hbd : ob.data = .cell v) : a ≠ b := by
  intro e
  have e1 := (N _ ha).1
  have e2 := (N _ hb).1
  dsimp only at e1 e2
  rw [e, e2] at e1
  rw [← Option.some.inj e1] at hd
  exact hd v hbd
set_option maxHeartbeats 1000000 in
theorem t_tail {Q : Flow → Shared → Prop} {lh : Addr} {c6 : Nat} (B : Below A₀ base outer g) (hA : A.frames = some (lawEnv w.params L' fa cd :: outer)) (hh : A.handled = none) (hD : A.depth + 110 < recursionLimit) (hU : A.units + 110 < cLine) (F : Fr g L' s.heap m) (N : News g L' s.heap ((lh, listOf #[] c6) :: news)) (hlt0 : ∀ q ∈ news, q.1 < lh) (X : (hd.heap_39 w.params).In g) (T : Top p loose mean mg mb g)
    {lw lo lr lt lf : Addr} {wv rv fv : List Value} {ws cs fs : List Int} {rs : List Addr} {c1 c2 c3 c4 c5 n : Nat} {sz' : Addr → Nat} {oK : Obj} {v₀ : Option Value}
    (hmw : m "wishes" = some (.ref lw)) (hmo : m "rooms" = some (.ref lo)) (hmr : m "rows" = some (.ref lr)) (hmt : m "taken" = some (.ref lt)) (hmf : m "falling" = some (.ref lf)) (hmh : m "heights" = some (.ref lh))
    (hlw : (lw, listOf wv.toArray c1) ∈ news) (hiw : IntsAre wv ws) (hlo : (lo, listOf rv.toArray c2) ∈ news) (hir : IntsAre rv cs) (hlr : (lr, listOf (rs.map Value.ref).toArray c3) ∈ news) (hlt : (lt, listOf (List.replicate n (Value.bool true)).toArray c4) ∈ news) (hlf : (lf, listOf fv.toArray c5) ∈ news) (hif : IntsAre fv fs) 
    (hK : (L' + 1, oK) ∈ news) (hKd : oK.data = .cell v₀) (hRF : RowsF w news rs sz') (hrs4 : rs.length = 4) (hn1000 : n ≤ 1000)
    (hws : ws.length = 4) (hcs : cs.length = 4) (hfs : fs.length = 4) (hdec : fs.Pairwise (fun a b => b ≤ a)) (hw26 : ∀ n ∈ ws, 0 ≤ n ∧ n < 26)
    (tot : Nat → Int) (hsh : ∀ k, k < 5 → ws.sum + 4 - (((ws.map (fun n => n.toNat - min n.toNat k + 1)).sum : Nat) : Int) = (((List.range 4).map (fun i => (cnt i fs : Int))).take k).sum)
    (htot : ∀ k, k < 5 → ∀ scs : List Int, scs.Perm cs → scs.Pairwise (· ≤ ·) → (((List.range 4).map (fun i => (cnt i fs : Int))).take k).sum + (scs.take (4 - k)).sum = tot k)
    (hmin : ∀ M, M ∈ (List.range 5).map tot → (∀ a, a ∈ (List.range 5).map tot → M ≤ a) → M = (n : Int)) (hsum : ((rs.map (fun r => (sz' r : Int))).sum) = ws.sum - n)
    (h : ∀ h' tk' m' news', Fr g L' h' m' → News g L' h' news' → (∀ a ps, (a, tabObj ps) ∈ news → (a, tabObj ps) ∈ news') → Q (.ret (.bool true)) { s with heap := h', toks := tk' }) :
    wpAny (model P0 w) A (execs ((lawBody w.params).drop 8) (lawEnv w.params L' fa cd)) Q E s := by
  obtain ⟨hnd, dp, fr, gd, un⟩ := A
  dsimp only at hA hD hU hh
  subst hA
  subst hh
  show wpAny _ _ (execs _ (envOfC _ (Scope.mk _ _ _ _ _) _ _ _)) _ _ _
  refine wpAny_execs_cons ?_
  refine wpAny_For ?_
  refine Call_ ?_
  refine wpAny_mono (Q := fun v s₂ => Hold (v = .type "range" ∧ s = s₂)) (by k_steps; exact ⟨rfl, rfl⟩) ?_ (fun _ _ z => z)
  rintro v s₂ ⟨rfl, rfl⟩
  refine PyProof.Rows.callWith_type1 ?_
  refine Calls.spliced_cons ?_
  show wpAny _ _ (eval _ _) _ _ _
  refine wpAny_mono (Q := fun v s₂ => Hold (∃ t tk, v = .int 4 t ∧ s₂ = { s with toks := tk })) (by k_steps; exact ⟨_, _, rfl, rfl⟩) ?_ (fun _ _ z => z)
  rintro v s₂ ⟨t₁, tk₁, rfl, rfl⟩
  refine Calls.spliced_nil ?_
  refine range1_rows F N ?_
  intro h₂ tk₂ t2 u2 v2 hr₂ F₂ N₂ k₂
  have hsm : Builtin.Range.small 0 4 1 = true ∧ Builtin.Range.rangeSize 0 4 1 = 4 := by decide +kernel
  refine wpAny_pyIter_range hr₂ hsm.1 ?_
  rw [hsm.2]
  have F₃ := F₂.push (rIter 0 4)
  have N₃ := News.push F₂ N₂ (rIter 0 4)
  have nI : ∀ q ∈ news, q.1 ≠ h₂.objs.size := fun q hq => Nat.ne_of_lt (Heap.lt_size (N₂ _ (.tail _ hq)).1)
  have nH : ∀ q ∈ news, q.1 ≠ lh := fun q hq => Nat.ne_of_lt (hlt0 q hq)
  have nC : ∀ {a : Addr} {xs : Array Value} {c : Nat}, (a, listOf xs c) ∈ news → a ≠ L' + 1 := fun ha => Ne.symm (ne_of_cell N (.tail _ ha) (.tail _ hK) hKd)
  refine k_loop (x1 := "column") (x2 := "noted") (n := 4) (I := h₂.objs.size) (l := lh) (f := fun i => (cnt i fs : Int)) rfl F₃ N₃ (.head _) (.tail _ (.head _)) (.tail _ (.tail _ hK)) hKd ?_ ?_
  · intro i s₁ m₁ news₁ us c₁ oK₁ v₁ u E' hin F' N' hm' S' hl' hi' hK' hKd'
    have up : ∀ {a : Addr} {xs : Array Value} {c : Nat}, (a, listOf xs c) ∈ news → (a, listOf xs c) ∈ news₁ := fun ha => S' _ (.tail _ (.tail _ ha)) (nC ha) (nH _ ha) (nI _ ha)
    exact t_height (k := i) B rfl hD hU F' N' X T hin rfl hfs hdec ((hm' "falling" (by decide) (by decide)).trans hmf) ((hm' "heights" (by decide) (by decide)).trans hmh) (up hlf) hif hK' hKd' hl' hi' (by simp)
  · intro h₄ tk₄ m₄ news₄ us₄ c₄ oK₄ v₄ F₄ N₄ hm₄ S₄ hl₄ hi₄ hK₄ hKd₄
    dsimp only
    have up₄ : ∀ {a : Addr} {xs : Array Value} {c : Nat}, (a, listOf xs c) ∈ news → (a, listOf xs c) ∈ news₄ := fun ha => S₄ _ (.tail _ (.tail _ ha)) (nC ha) (nH _ ha) (nI _ ha)
    have R₄ : RowsF w news₄ rs sz' := fun r hr => (hRF r hr).data fun a o ha hd => S₄ _ (.tail _ (.tail _ ha)) (ne_cell_data N (.tail _ ha) hd (.tail _ hK) hKd) (nH _ ha) (nI _ ha)
    have tb₄ : ∀ a ps, (a, tabObj ps) ∈ news → (a, tabObj ps) ∈ news₄ := fun a ps ha => S₄ _ (.tail _ (.tail _ ha)) (ne_cell_data N (.tail _ ha) (fun v e => by cases e) (.tail _ hK) hKd) (nH _ ha) (nI _ ha)
    have hlw₄ := up₄ hlw
    have hlo₄ := up₄ hlo
    have hlr₄ := up₄ hlr
    have hlt₄ := up₄ hlt
    clear up₄ S₄ nC nI
    refine wpAny_execs_cons ?_
    clear F N F₂ N₂ F₃ N₃
    k_steps
    rename_i ls hx5 l₅ h₅ F₅ N₅
    refine wpAny_For ?_
    refine Call_ ?_
    refine wpAny_mono (Q := fun v s₂ => Hold (v = .type "range" ∧ ∃ tk, s₂ = { s with heap := h₅, toks := tk })) (by k_steps; exact ⟨rfl, _, rfl⟩) ?_ (fun _ _ z => z)
    rintro v s₂ ⟨rfl, tk₅, rfl⟩
    refine PyProof.Rows.callWith_type1 ?_
    refine Calls.spliced_cons ?_
    show wpAny _ _ (eval _ _) _ _ _
    refine wpAny_mono (Q := fun v s₂ => Hold (∃ t tk, v = .int 5 t ∧ s₂ = { s with heap := h₅, toks := tk })) (by k_steps; exact ⟨_, _, rfl, rfl⟩) ?_ (fun _ _ z => z)
    rintro v s₂ ⟨t₅, tk₅', rfl, rfl⟩
    refine Calls.spliced_nil ?_
    refine range1_rows F₅ N₅ ?_
    intro h₆ tk₆ t6 u6 v6 hr₆ F₆ N₆ k₆
    have hsm5 : Builtin.Range.small 0 5 1 = true ∧ Builtin.Range.rangeSize 0 5 1 = 5 := by decide +kernel
    refine wpAny_pyIter_range hr₆ hsm5.1 ?_
    rw [hsm5.2]
    have F₇ := F₆.push (rIter 0 5)
    have N₇ := News.push F₆ N₆ (rIter 0 5)
    have nI : ∀ q ∈ news₄, q.1 ≠ h₆.objs.size := fun q hq => Nat.ne_of_lt (Heap.lt_size (N₆ _ (.tail _ hq)).1)
    have nS : ∀ q ∈ news₄, q.1 ≠ ls := fun q hq => Nat.ne_of_lt (l₅ q hq)
    have nC : ∀ {a : Addr} {xs : Array Value} {c : Nat}, (a, listOf xs c) ∈ news₄ → a ≠ L' + 1 := fun ha => Ne.symm (ne_of_cell N₅ (.tail _ ha) (.tail _ hK₄) hKd₄)
    refine k_loop (x1 := "bared") (x2 := "share") (n := 5) (I := h₆.objs.size) (l := ls) (f := tot) rfl F₇ N₇ (.head _) (.tail _ (.head _)) (.tail _ (.tail _ hK₄)) hKd₄ ?_ ?_
    · intro i s₁ m₁ news₁ us c₁ oK₁ v₁ u E' hin F' N' hm' S' hl' hi' hK' hKd'
      have up : ∀ {a : Addr} {xs : Array Value} {c : Nat}, (a, listOf xs c) ∈ news₄ → (a, listOf xs c) ∈ news₁ := fun ha => S' _ (.tail _ (.tail _ ha)) (nC ha) (nS _ ha) (nI _ ha)
      have hm4 : ∀ z : Str, z ≠ "bared" → z ≠ "share" → z ≠ "sums" → z ≠ "column" → z ≠ "noted" → m₁ z = m z := fun z h1 h2 h3 h4 h5 => (hm' z h1 h2).trans (by
        show (if z = ("sums" : Str) then _ else m₄ z) = _
        rw [if_neg h3]; exact hm₄ z h4 h5)
      have hms : m₁ "sums" = some (.ref ls) := (hm' "sums" (by decide) (by decide)).trans rfl
      exact t_sum (k := i) B rfl hD hU F' N' X T hin rfl ((hm4 "wishes" (by decide) (by decide) (by decide) (by decide) (by decide)).trans hmw) ((hm4 "rooms" (by decide) (by decide) (by decide) (by decide) (by decide)).trans hmo) ((hm4 "heights" (by decide) (by decide) (by decide) (by decide) (by decide)).trans hmh) hms (up hlw₄) hiw (up hlo₄) hir (up hl₄) hi₄ hl' hi' hws hcs (by simp) (by simp; omega) hw26 hK' hKd' (hsh i hin) (htot i hin)
    · intro h₈ tk₈ m₈ news₈ us₈ c₈ oK₈ v₈ F₈ N₈ hm₈ S₈ hl₈ hi₈ hK₈ hKd₈
      dsimp only
      have up₈ : ∀ {a : Addr} {xs : Array Value} {c : Nat}, (a, listOf xs c) ∈ news₄ → (a, listOf xs c) ∈ news₈ := fun ha => S₈ _ (.tail _ (.tail _ ha)) (nC ha) (nS _ ha) (nI _ ha)
      have R₈ : RowsF w news₈ rs sz' := fun r hr => (R₄ r hr).data fun a o ha hd => S₈ _ (.tail _ (.tail _ ha)) (ne_cell_data N₅ (.tail _ ha) hd (.tail _ hK₄) hKd₄) (nS _ ha) (nI _ ha)
      have tb₈ : ∀ a ps, (a, tabObj ps) ∈ news₄ → (a, tabObj ps) ∈ news₈ := fun a ps ha => S₈ _ (.tail _ (.tail _ ha)) (ne_cell_data N₅ (.tail _ ha) (fun v e => by cases e) (.tail _ hK₄) hKd₄) (nS _ ha) (nI _ ha)
      have hlw₈ := up₈ hlw₄
      have hlr₈ := up₈ hlr₄
      have hlt₈ := up₈ hlt₄
      have hms : m₈ "sums" = some (.ref ls) := (hm₈ "sums" (by decide) (by decide)).trans rfl
      have hm4 : ∀ z : Str, z ≠ "bared" → z ≠ "share" → z ≠ "sums" → z ≠ "column" → z ≠ "noted" → m₈ z = m z := fun z h1 h2 h3 h4 h5 => (hm₈ z h1 h2).trans (by
        show (if z = ("sums" : Str) then _ else m₄ z) = _
        rw [if_neg h3]; exact hm₄ z h4 h5)
      have hkn : ∀ q ∈ ([("wishes", .ref lw), ("taken", .ref lt), ("rows", .ref lr), ("sums", .ref ls)] : List (Str × Value)), m₈ q.1 = some q.2 := by
        intro q hq
        rcases List.mem_cons.mp hq with rfl | hq
        · exact (hm4 "wishes" (by decide) (by decide) (by decide) (by decide) (by decide)).trans hmw
        · rcases List.mem_cons.mp hq with rfl | hq
          · exact (hm4 "taken" (by decide) (by decide) (by decide) (by decide) (by decide)).trans hmt
          · rcases List.mem_cons.mp hq with rfl | hq
            · exact (hm4 "rows" (by decide) (by decide) (by decide) (by decide) (by decide)).trans hmr
            · rcases List.mem_cons.mp hq with rfl | hq
              · exact hms
              · cases hq
      have F₉ := fr_known F₈ _ hkn
      clear F₈ F₇ N₇ F₆ N₆ F₅ N₅ S₈ up₈ nI nS nC
      refine wpAny_execs_cons ?_
      k_steps
      refine in_false N₈ hlt₈ ?_
      k_steps
      refine PyProof.Rows.len_list (items := (List.replicate n (Value.bool true)).toArray) ⟨_, (N₈ _ hlt₈).1, rfl, _, rfl⟩ (by
        rw [List.size_toArray, List.length_replicate]
        have : (2 : Int) ^ 63 = 9223372036854775808 := by decide
        omega) ?_
      rw [List.size_toArray, List.length_replicate]
      k_steps
      refine kso_min F₉ N₈ ⟨_, (N₈ _ hl₈).1, rfl, _, rfl⟩ hi₈ (by simp) rfl ?_
      intro h₁₀ M t₁₀ tk₁₀ F₁₀ N₁₀ hM1 hM2
      rw [hmin M hM1 hM2]
      clear F₉ N₈
      k_steps
      · exfalso; omega
      show wpAny _ _ _ _ _ _
      rename News g L' _ news₈ => N₁₁
      rename Fr g L' _ _ => F₁₁
      refine' comp_nums (cl := []) (fun i => ((rs.map (fun r => (sz' r : Int))).getD i 0)) F₁₁ N₁₁ ?hh hlr₈ ?hsz ?hclos ?hcell ?hkind ?hnames ?hx ?hiter ?turn ?_ (by intro _; rfl)
      case hh => rfl
      case hsz => rw [List.length_map]; omega
      case hclos => with_unfolding_all rfl
      case hcell => decide
      case hkind => rfl
      case hnames => decide
      case hx => rfl
      case hiter =>
        intro Q' hq
        k_steps
        exact hq
      case turn =>
        intro i v C oC m₂ h₁₂ tk₁₂ news₁₂ E₂ hv hC hxv F₁₂ N₁₂ hCm S₁₂
        obtain ⟨r, hr, hrv⟩ : ∃ r, rs[i]? = some r ∧ v = .ref r := by
          rw [List.getElem?_map] at hv
          obtain ⟨r, h1, h2⟩ := Option.map_eq_some_iff.mp hv
          exact ⟨r, h1, h2.symm⟩
        subst hrv
        have hrm : r ∈ rs := List.mem_of_getElem? hr
        obtain ⟨d, items, ep, t9, t9', q1, q2, q3, q4⟩ := (R₈ r hrm).sub S₁₂
        clear F₁₁ N₁₁
        k_steps
        show wpAny _ _ _ _ _ _
        refine acc_method (f := .ref 105) (tf := .type "function") (X.keeps F₁₂.keep) (inst_news N₁₂ q1 q2) f_pc (looks_typeIn (X.keeps F₁₂.keep) f_fn.2.1) (by decide) no_is.1.1 ?_
        refine callWith_K0 (X.keeps F₁₂.keep) keep_fn.1.1 ?_
        refine wpAny_call ?_
        refine c_pc (outer := outer) (env := lawEnv w.params L' fa cd) B F₁₂ X N₁₂ T rfl rfl law_kind (by dsimp only; omega) q1 q2 ?_
        intro h' news' tk' t' F' N' S'
        refine ⟨h', tk', t', ?_, rfl, F', fun q hq => N' q (S' q hq)⟩
        rw [List.getD_eq_getElem?_getD, List.getElem?_map, hr, q3]
        rfl
      intro D h₁₃ tk₁₃ ys hys F₁₃ N₁₃
      clear F₁₁ N₁₁
      obtain ⟨news₁₃, N₁₄, S₁₃, hD₁₃⟩ : ∃ newsX, News g L' h₁₃ newsX ∧ Sub news₈ newsX ∧ (D, listOf ys.toArray ys.length) ∈ newsX := ⟨_, N₁₃, fun q hq => .tail _ hq, .head _⟩
      clear N₁₃
      have hlw₁₃ := S₁₃ _ hlw₈
      have hlt₁₃ := S₁₃ _ hlt₈
      rw [range_getD] at hys
      k_steps
      refine sumK rfl F₁₃ N₁₄ ⟨_, (N₁₄ _ hD₁₃).1, rfl, _, rfl⟩ hys ?_
      intro h₁₅ tk₁₅ t₁₅ F₁₅ N₁₅
      rw [hsum]
      clear F₁₃ N₁₄
      k_steps
      refine sumK rfl F₁₅ N₁₅ ⟨_, (N₁₅ _ hlw₁₃).1, rfl, _, rfl⟩ hiw ?_
      intro h₁₆ tk₁₆ t₁₆ F₁₆ N₁₆
      clear F₁₅ N₁₅
      k_steps
      refine PyProof.Rows.len_list (items := (List.replicate n (Value.bool true)).toArray) ⟨_, (N₁₆ _ hlt₁₃).1, rfl, _, rfl⟩ (by
        rw [List.size_toArray, List.length_replicate]
        have : (2 : Int) ^ 63 = 9223372036854775808 := by decide
        omega) ?_
      rw [List.size_toArray, List.length_replicate]
      k_steps
      rw [beq_self_eq_true]
      exact h _ _ _ news₁₃ (by assumption) (by assumption) fun a ps ha => S₁₃ _ (tb₈ a ps (tb₄ a ps ha))
end
end Mine
-- M33
namespace Mine
theorem cnt_cast (k : Nat) (us : List Nat) : cnt k (us.map (fun n : Nat => (n : Int))) = hk k us := by
  unfold cnt hk
  rw [List.filter_map, List.length_map]
  congr 1
  apply List.filter_congr
  intro x _
  simp
theorem cnt_perm {fs ws : List Int} (h : fs.Perm ws) (k : Nat) : cnt k fs = cnt k ws := (h.filter _).length_eq
theorem sum_hk (us : List Nat) : ∀ k, ((List.range k).map (fun i => ((hk i us : Nat) : Int))).sum = (fk k us : Int)
  | 0 => by rw [fk_zero]; rfl
  | k + 1 => by
    rw [List.range_succ, List.map_append, List.sum_append, sum_hk us k, fk_succ]
    simp
theorem heights_sum {fs : List Int} {us : List Nat} (h : fs.Perm (us.map (fun n : Nat => (n : Int)))) (k : Nat) (hk5 : k < 5) : (((List.range 4).map (fun i => (cnt i fs : Int))).take k).sum = (fk k us : Int) := by
  have e : (fun i => (cnt i fs : Int)) = fun i => ((hk i us : Nat) : Int) := by
    funext i
    rw [cnt_perm h, cnt_cast]
  rw [e, ← List.map_take, List.take_range, show min k 4 = k by omega, sum_hk]
theorem bared_sum (k : Nat) : ∀ us : List Nat, (us.map (fun n : Nat => (n : Int))).sum + us.length - ((((us.map (fun n : Nat => (n : Int))).map (fun n => n.toNat - min n.toNat k + 1)).sum : Nat) : Int) = (fk k us : Int)
  | [] => by rfl
  | u :: us => by
    have ih := bared_sum k us
    rw [fk_cons, List.map_cons, List.map_cons, List.sum_cons, List.sum_cons, List.length_cons, Int.toNat_natCast]
    omega
theorem sorted_one {xs ys : List Int} (h : xs.Perm ys) (h1 : xs.Pairwise (· ≤ ·)) (h2 : ys.Pairwise (· ≤ ·)) : xs = ys :=
  h.eq_of_pairwise (fun a b _ _ h3 h4 => Int.le_antisymm h3 h4) h1 h2
theorem sorted_is (cs : List Int) : ∃ ss : List Int, ss.Perm cs ∧ ss.Pairwise (· ≤ ·) := by
  refine ⟨cs.mergeSort (fun a b => decide (a ≤ b)), List.mergeSort_perm _ _, ?_⟩
  have := List.pairwise_mergeSort (le := fun a b : Int => decide (a ≤ b)) (fun a b c h1 h2 => by simp at *; omega) (fun a b => by simp; omega) cs
  exact this.imp fun h => by simpa using h
theorem sum_cast (rs : List Addr) (f : Addr → Nat) : (rs.map (fun r => (f r : Int))).sum = ((rs.map f).sum : Nat) := by
  induction rs with
  | nil => rfl
  | cons r rs ih => rw [List.map_cons, List.map_cons, List.sum_cons, List.sum_cons, ih]; omega
theorem cast_sum : ∀ us : List Nat, (us.map (fun n : Nat => (n : Int))).sum = (us.sum : Nat)
  | [] => rfl
  | u :: us => by rw [List.map_cons, List.sum_cons, List.sum_cons, cast_sum us]; omega
/-- all that the law asks of numbers -/
theorem the_law {rs : List Addr} {cs fs ws : List Int} {sz sz' : Addr → Nat} {n : Nat} (hr : Run rs cs sz n sz') (hn : rs.Nodup) (h4 : rs.length = 4) (hc4 : cs.length = 4) (hc0 : ∀ c ∈ cs, 0 ≤ c) (hw : ws = (rs.map sz).map (fun n : Nat => (n : Int))) (hf : fs.Perm ws) :
    ∃ tot : Nat → Int, (∀ k, k < 5 → ws.sum + 4 - (((ws.map (fun n => n.toNat - min n.toNat k + 1)).sum : Nat) : Int) = (((List.range 4).map (fun i => (cnt i fs : Int))).take k).sum) ∧
      (∀ k, k < 5 → ∀ scs : List Int, scs.Perm cs → scs.Pairwise (· ≤ ·) → (((List.range 4).map (fun i => (cnt i fs : Int))).take k).sum + (scs.take (4 - k)).sum = tot k) ∧
      (∀ M, M ∈ (List.range 5).map tot → (∀ a, a ∈ (List.range 5).map tot → M ≤ a) → M = (n : Int)) ∧ ((rs.map (fun r => (sz' r : Int))).sum) = ws.sum - n ∧ n ≤ 1000 * (ws.sum.toNat + 1) ∧ (n : Int) ≤ ws.sum := by
  obtain ⟨ss, hp, hs⟩ := sorted_is cs
  have hl : ss.length = 4 := hp.length_eq.trans hc4
  have left := left_is hr hn h4
  have es : ws.sum = ((rs.map sz).sum : Nat) := by rw [hw, cast_sum]
  have es2 := sum_cast rs sz'
  refine ⟨fun k => (fk k (rs.map sz) : Int) + (ss.take (4 - k)).sum, fun k hk => ?_, fun k hk scs h1 h2 => ?_, ?_, by rw [es2, es]; omega, by rw [es]; omega, by rw [es]; omega⟩
  · rw [heights_sum (hw ▸ hf) k hk, hw]
    have := bared_sum k (rs.map sz)
    rw [List.length_map, h4] at this
    exact this
  · rw [heights_sum (hw ▸ hf) k hk, sorted_one (h1.trans hp.symm) h2 hs]
  · match ss, hl with
    | [a, b, c, d], _ =>
      simp only [List.pairwise_cons, List.mem_cons, List.not_mem_nil, or_false, forall_eq_or_imp, forall_eq] at hs
      have ha : 0 ≤ a := hc0 a (hp.mem_iff.mp (by simp))
      have t := taken_is hr hn h4 hp ha (by omega) (by omega) (by omega)
      intro M hM hle
      simp only [List.range, List.range.loop, List.map_cons, List.map_nil, List.mem_cons, List.not_mem_nil, or_false, forall_eq_or_imp, forall_eq, Nat.reduceSub, List.take, List.sum_cons, List.sum_nil] at hM hle
      omega
end Mine
-- M34
namespace Mine
theorem fill34 : PySem.Challenge.rw_wr0007_01 = PySem.Challenge.rw_wr0007_01 ∧ hd.heap_39 = hd.heap_39 := by
  w_top off
  k_fill
  exact ⟨rfl, rfl⟩
local macro_rules | `(tactic| k_room) => `(tactic| ktr_room)
local macro_rules | `(tactic| k_units) => `(tactic| ktr_units)
local macro_rules | `(tactic| walk_at "callWith ref") => `(tactic| ((with_reducible show wpAny _ _ (callWith _ (Value.ref 133) _ _ _) _ _ _); refine stop_it ?_))
local macro_rules | `(tactic| walk_at "callWith ref") => `(tactic| ((with_reducible show wpAny _ _ (callWith _ (Value.ref 140) _ _ _) _ _ _); refine stop_it ?_))
local macro_rules | `(tactic| walk_at "callWith ref") => `(tactic| ((with_reducible show wpAny _ _ (callWith _ (Value.ref 147) _ _ _) _ _ _); refine stop_it ?_))
local macro_rules | `(tactic| walk_at "subscriptTail Name Slice ref ref") => `(tactic| ((with_reducible show wpAny _ _ (subscriptTail _ (Expr.Slice (some _) _ _ _) (Value.ref _) (Value.ref _)) _ _ _); refine stop_it ?_))
local macro_rules | `(tactic| walk_at "binaryOp Add ref ref") => `(tactic| refine stop_it ?_)
local macro_rules | `(tactic| walk_at "execs cons") => `(tactic| ((with_reducible show wpAny _ _ (execs (Stmt.For _ _ _ _ _ :: _) _) _ _ _); refine stop_it ?_))
section
variable {w : World} {A₀ A : Around} {base h₀ : Heap} {outer : List Env} {env : Env} {L : Addr} {m mg mb : Str → Option Value} {news : List (Addr × Obj)} {p : Program} {loose : List Str} {mean : ExcName → Option Value}
  {E : Value → Shared → Prop} {R : Result → Shared → Prop} {s : Shared} {fa : Addr} {cd : Value}
theorem keep_law {P : Params} : keepIn (hd.heap_39 P) (.ref 133) = true ∧ keepIn (hd.heap_39 P) (.ref 140) = true ∧ keepIn (hd.heap_39 P) (.ref 147) = true := ⟨by kernel_rfl, by kernel_rfl, by kernel_rfl⟩
theorem news_more {h : Heap} {a : Addr} {o : Obj} (N : News h₀ L h news) (ha : (a, o) ∈ news) : News h₀ L h ((a, o) :: news) := fun q hq => by
  rcases List.mem_cons.mp hq with rfl | hq
  · exact N _ ha
  · exact N _ hq
theorem eight {ps : List Int} (h : ps.length = 8) : ∃ a b c d e f g i, ps = [a, b, c, d, e, f, g, i] := by
  match ps, h with
  | [a, b, c, d, e, f, g, i], _ => exact ⟨a, b, c, d, e, f, g, i, rfl⟩
theorem ints_eight {us : List Value} {a b c d e f g i : Int} (h : IntsAre us [a, b, c, d, e, f, g, i]) : ∃ t0 t1 t2 t3 t4 t5 t6 t7 : Tok, us = [.int a t0, .int b t1, .int c t2, .int d t3, .int e t4, .int f t5, .int g t6, .int i t7] := by
  cases h with | cons _ _ h => cases h with | cons _ _ h => cases h with | cons _ _ h => cases h with | cons _ _ h => cases h with | cons _ _ h => cases h with | cons _ _ h => cases h with | cons _ _ h => cases h with | cons _ _ h =>
  cases h
  exact ⟨_, _, _, _, _, _, _, _, rfl⟩
theorem nat_of {a : Int} (h : 0 ≤ a) : ∃ n : Nat, a = n := ⟨a.toNat, (Int.toNat_of_nonneg h).symm⟩
theorem four_vals (n0 n1 n2 n3 : Nat) (t0 t1 t2 t3 : Tok) : ∀ (i : Nat) n, [n0, n1, n2, n3][i]? = some n → ∃ u, [Value.int n0 t0, .int n1 t1, .int n2 t2, .int n3 t3][i]? = some (Value.int (n : Int) u)
  | 0, n, h => by simp at h; subst h; exact ⟨_, rfl⟩
  | 1, n, h => by simp at h; subst h; exact ⟨_, rfl⟩
  | 2, n, h => by simp at h; subst h; exact ⟨_, rfl⟩
  | 3, n, h => by simp at h; subst h; exact ⟨_, rfl⟩
  | k + 4, n, h => by simp at h
theorem zip_map_get : ∀ {rs : List Addr} {ws : List Nat}, rs.length = ws.length → rs.Nodup → rs.map (fun r => ((rs.zip ws).lookup r).getD 0) = ws
  | [], [], _, _ => rfl
  | r :: rs, w :: ws, hl, hn => by
    have hn' := List.nodup_cons.mp hn
    rw [List.map_cons, List.zip_cons_cons, List.lookup_cons]
    simp only [beq_self_eq_true, Option.getD_some]
    congr 1
    rw [← zip_map_get (rs := rs) (ws := ws) (by simpa using hl) hn'.2]
    refine List.map_congr_left fun a ha => ?_
    rw [List.lookup_cons]
    have : (a == r) = false := by
      rw [beq_eq_false_iff_ne]
      rintro rfl
      exact hn'.1 ha
    rw [this, zip_map_get (rs := rs) (ws := ws) (by simpa using hl) hn'.2]
theorem RowsIn.toF {rs : List Addr} {ws : List Nat} (R : RowsIn w news rs ws) : ∃ sz : Addr → Nat, RowsF w news rs sz ∧ ws = rs.map sz := by
  obtain ⟨h1, h2, h3⟩ := R
  refine ⟨fun r => ((rs.zip ws).lookup r).getD 0, fun r hr => ?_, (zip_map_get h1 h2).symm⟩
  obtain ⟨j, hj, rfl⟩ := List.mem_iff_getElem.mp hr
  have e := zip_map_get h1 h2
  have hjw : j < ws.length := by omega
  have := h3 j rs[j] ws[j] (List.getElem?_eq_getElem hj) (List.getElem?_eq_getElem hjw)
  have e2 : ws[j] = ((rs.zip ws).lookup rs[j]).getD 0 := by
    have : (rs.map (fun r => ((rs.zip ws).lookup r).getD 0))[j]'(by simpa using hj) = ws[j] := by simp only [e]
    rw [← this, List.getElem_map]
  show RowIn w news rs[j] (((rs.zip ws).lookup rs[j]).getD 0)
  rw [← e2]; exact this
set_option maxHeartbeats 8000000 in
theorem t_body {Q : Flow → Shared → Prop} {g : Heap} {L' : Addr} (B₁ : Below A₀ base outer g) (hA : A.frames = some (lawEnv w.params L' fa cd :: outer)) (hh : A.handled = none) (hD : A.depth + 110 < recursionLimit) (hU : A.units + 110 < cLine) (F : Fr g L' s.heap m) (N : News g L' s.heap news) (X₁ : (hd.heap_39 w.params).In g) (T₁ : Top p loose mean mg mb g) (hb : AllBare s.gens)
    {l : Addr} {vs : List Value} {ns : List Int} {oK : Obj} {v₀ : Option Value} (hlg : g.IsList l vs.toArray) (hi : IntsAre vs ns) (h63 : ns.length ≤ 63) (hms : m "script" = some (.ref l)) (hK : (L' + 1, oK) ∈ news) (dK : oK.data = .cell v₀)
    (hT : Tabs news) (hLT : LamTab posLam (Str.ofString "_law_taken.<locals>." ++ "<lambda>") news)
    (h : ∀ s' m' news', Fr g L' s'.heap m' → News g L' s'.heap news' → AllBare s'.gens → s'.os = s.os → (∃ p1 p2 p3, (70, tabObj p1) ∈ news' ∧ (77, tabObj p2) ∈ news' ∧ (142, tabObj p3) ∈ news') → Q (.ret (.bool true)) s') :
    wpAny (model P0 w) A (execs (lawBody w.params) (lawEnv w.params L' fa cd)) Q E s := by
  obtain ⟨hnd, dp, fr, gd, un⟩ := A
  dsimp only at hA hD hU hh
  subst hA
  subst hh
  show wpAny _ _ (execs _ (envOfC _ (Scope.mk _ _ _ _ _) _ _ _)) _ _ _
  have F₁ := fr_known F [("script", .ref l)] (by
    intro q hq
    rcases List.mem_cons.mp hq with rfl | hq
    · exact hms
    · cases hq)
  have N₁ := N
  clear F N
  refine wpAny_execs_cons ?_
  k_steps
  show wpAny _ _ _ _ _ _
  refine callWith_K X₁ keep_law.1 ?_
  refine wpAny_mono (Q := fun us s₂ => Hold (us = [.ref l] ∧ ∃ tk, s₂ = { s with toks := tk })) ?_ ?_ (fun _ _ z => z)
  · k_steps
    exact ⟨by first | trivial | rfl, _, rfl⟩
  rintro us s₂ ⟨hus, tk₁, hs₂⟩
  subst hus
  subst hs₂
  refine ⟨X₁.keeps F₁.keep, ?_⟩
  refine wpAny_call ?_
  have hD2 : dp + 100 < recursionLimit := by omega
  have hU2 : un + 100 < cLine := by omega
  show codeAny (model P0 w) _ (.call (.ref 133) ⟨[.ref l], []⟩) _ _
  refine' c_places (env := lawEnv w.params L' fa cd) (outer := outer) ?gB ?gF ?gX ?gN ?gT ?gA ?gf ?gk ?gh ?gD ?gU hlg hi h63 ?_
  case gB => exact B₁
  case gF => exact F₁
  case gX => exact X₁
  case gN => exact N₁
  case gT => exact T₁
  case gA => exact rfl
  case gf => exact rfl
  case gk => exact law_kind
  case gh => exact rfl
  case gD => exact hD2
  case gU => exact hU2
  intro h₂ news₂ tk₂ lp us ps c F₂ N₂ S₂ mp hi₂ hlen hpos hsum
  obtain ⟨a0, a1, a2, a3, a4, a5, a6, a7, rfl⟩ := eight hlen
  obtain ⟨n0, rfl⟩ := nat_of (hpos a0 (by simp))
  obtain ⟨n1, rfl⟩ := nat_of (hpos a1 (by simp))
  obtain ⟨n2, rfl⟩ := nat_of (hpos a2 (by simp))
  obtain ⟨n3, rfl⟩ := nat_of (hpos a3 (by simp))
  have hw26 : n0 < 26 ∧ n1 < 26 ∧ n2 < 26 ∧ n3 < 26 := by
    have h4 := hpos a4 (by simp)
    have h5 := hpos a5 (by simp)
    have h6 := hpos a6 (by simp)
    have h7 := hpos a7 (by simp)
    simp only [List.sum_cons, List.sum_nil] at hsum
    omega
  obtain ⟨t0, t1, t2, t3, t4, t5, t6, t7, rfl⟩ := ints_eight hi₂
  have hk₂ := S₂ _ hK
  have N₂' := news_more N₂ mp
  clear N₂
  dsimp only
  k_steps
  rename_i lw x1 lwl x2 x3 x4 x5 h₃ F₃ N₃
  have hf0 : 0 ≤ (↑n0 + (↑n1 + (↑n2 + (↑n3 + (a4 + (a5 + (a6 + (a7 + 0)))))))).fmod 4 := Int.fmod_nonneg_of_pos _ (by decide)
  have hf4 : (↑n0 + (↑n1 + (↑n2 + (↑n3 + (a4 + (a5 + (a6 + (a7 + 0)))))))).fmod 4 < 4 := Int.fmod_lt_of_pos _ (by decide)
  generalize (↑n0 + (↑n1 + (↑n2 + (↑n3 + (a4 + (a5 + (a6 + (a7 + 0)))))))).fmod 4 = fm at hf0 hf4 F₃
  show wpAny _ _ _ _ _ _
  refine slice_from (s := { s with heap := h₃, toks := _ }) F₃ N₃ (.tail _ (.head _)) (by omega) (by have := sizeLine_eq; simp; omega) ?_ (by with_unfolding_all rfl) (fun _ => rfl)
  intro D₄ h₄ F₄ N₄ l₄
  k_steps
  show wpAny _ _ _ _ _ _
  refine slice_mid (s := { s with heap := h₄, toks := _ }) F₄ N₄ (.tail _ (.tail _ (.head _))) (by decide) (by omega) (by have := sizeLine_eq; simp; omega) ?_ (by with_unfolding_all rfl) (fun _ => rfl)
  intro D₅ h₅ F₅ N₅ l₅
  k_steps
  show wpAny _ _ _ _ _ _
  have hus8 : ([Value.int n0 t0, .int n1 t1, .int n2 t2, .int n3 t3, .int a4 t4, .int a5 t5, .int a6 t6, .int a7 t7] : List Value).length = 8 := rfl
  obtain ⟨rv, cs, hrv, hics, hcs4, hcs0⟩ : ∃ (rv : List Value) (cs : List Int), rv = (List.drop (4 + fm).toNat #[Value.int n0 t0, Value.int n1 t1, Value.int n2 t2, Value.int n3 t3, Value.int a4 t4, Value.int a5 t5, Value.int a6 t6, Value.int a7 t7].toList) ++ List.take (min (4 + fm).toNat 8 - Int.toNat 4) (List.drop (Int.toNat 4) #[Value.int n0 t0, Value.int n1 t1, Value.int n2 t2, Value.int n3 t3, Value.int a4 t4, Value.int a5 t5, Value.int a6 t6, Value.int a7 t7].toList) ∧ IntsAre rv cs ∧ cs.length = 4 ∧ (∀ c ∈ cs, 0 ≤ c) := by
    refine ⟨_, ([↑n0, ↑n1, ↑n2, ↑n3, a4, a5, a6, a7].drop (4 + fm).toNat) ++ ([↑n0, ↑n1, ↑n2, ↑n3, a4, a5, a6, a7].drop (Int.toNat 4)).take (min (4 + fm).toNat 8 - Int.toNat 4), rfl, ?_, ?_, ?_⟩
    · exact ints_app (hi₂.drop _) (ints_take (hi₂.drop _) _)
    · simp only [List.length_append, List.length_drop, List.length_take, List.length_cons, List.length_nil]
      have : Int.toNat 4 = 4 := rfl
      omega
    · intro c hc
      rcases List.mem_append.mp hc with hc | hc
      · exact hpos _ (List.mem_of_mem_drop hc)
      · exact hpos _ (List.mem_of_mem_drop (List.mem_of_mem_take hc))
  refine add_arrays F₅ N₅ ⟨_, (N₅ _ (.tail _ (.head _))).1, rfl, _, rfl⟩ ⟨_, (N₅ _ (.head _)).1, rfl, _, rfl⟩ ?_ ?_
  · intro h₆ F₆ N₆
    dsimp only at N₆ ⊢
    generalize h₅.objs.size = lo at N₆ ⊢
    have hrv2 : ((List.drop (4 + fm).toNat #[Value.int n0 t0, Value.int n1 t1, Value.int n2 t2, Value.int n3 t3, Value.int a4 t4, Value.int a5 t5, Value.int a6 t6, Value.int a7 t7].toList).toArray.toList ++ (List.take (min (4 + fm).toNat #[Value.int n0 t0, Value.int n1 t1, Value.int n2 t2, Value.int n3 t3, Value.int a4 t4, Value.int a5 t5, Value.int a6 t6, Value.int a7 t7].size - Int.toNat 4) (List.drop (Int.toNat 4) #[Value.int n0 t0, Value.int n1 t1, Value.int n2 t2, Value.int n3 t3, Value.int a4 t4, Value.int a5 t5, Value.int a6 t6, Value.int a7 t7].toList)).toArray.toList) = rv := by rw [hrv]; rfl
    rw [hrv2] at N₆
    clear hrv hrv2
    k_steps
    rename_i h₇ F₇ N₇
    show wpAny _ _ _ _ _ _
    refine callWith_K X₁ keep_law.2.1 ?_
    refine wpAny_mono (Q := fun us s₂ => Hold (us = [.ref lw] ∧ ∃ tk, s₂ = { s with heap := h₇, toks := tk })) ?_ ?_ (fun _ _ z => z)
    · k_steps
      exact ⟨by first | trivial | rfl, _, rfl⟩
    rintro us s₂ ⟨hus, tk₇, hs₂⟩
    subst hus
    subst hs₂
    refine ⟨X₁.keeps F₇.keep, ?_⟩
    refine wpAny_call ?_
    refine c_rows (vs := [.int n0 t0, .int n1 t1, .int n2 t2, .int n3 t3]) (ws := [n0, n1, n2, n3]) B₁ F₇ X₁ N₇ T₁ rfl rfl rfl rfl (by ktr_room) (by ktr_units) rfl (four_vals n0 n1 n2 n3 t0 t1 t2 t3) (by simp [hw26]) rfl (.tail _ (.tail _ (.tail _ (.head _)))) ?_
    intro h₈ news₈ tk₈ lr ep₈ rs F₈ N₈ S₈ mr₈ R₈
    have mo₈ := S₈ _ (.head _)
    have mw₈ := S₈ _ (.tail _ (.tail _ (.tail _ (.head _))))
    have up₈ : Sub news₂ news₈ := fun q hq => S₈ _ (.tail _ (.tail _ (.tail _ (.tail _ (.tail _ hq)))))
    have hT₈ : Tabs news₈ := tabs_sub hT fun q hq => up₈ _ (S₂ _ hq)
    have hLT₈ : LamTab posLam (Str.ofString "_law_taken.<locals>." ++ "<lambda>") news₈ := hLT.sub fun q hq => up₈ _ (S₂ _ hq)
    have hk₈ := up₈ _ hk₂
    clear N₇
    dsimp only
    k_steps
    rename_i h₉ F₉ N₉
    show wpAny _ _ _ _ _ _
    refine callWith_K X₁ keep_law.2.2 ?_
    refine wpAny_mono (Q := fun us s₂ => Hold (us = [.ref lr, .ref lo] ∧ ∃ tk, s₂ = { s with heap := h₉, toks := tk })) ?_ ?_ (fun _ _ z => z)
    · k_steps
      exact ⟨by first | trivial | rfl, _, rfl⟩
    rintro us s₂ ⟨hus, tk₉, hs₂⟩
    subst hus
    subst hs₂
    refine ⟨X₁.keeps F₉.keep, ?_⟩
    refine wpAny_call ?_
    have hrs4 : rs.length = 4 := R₈.1
    obtain ⟨sz, hRF, hszs⟩ := R₈.toF
    have hsz26 : ∀ r ∈ rs, sz r < 26 := fun r hr => by
      have : sz r ∈ rs.map sz := List.mem_map_of_mem hr
      rw [← hszs] at this
      simp at this
      omega
    show codeAny (model P0 w) _ (.call (.ref 147) ⟨[.ref lr, .ref lo], []⟩) _ _
    refine' c_taken (vs := rv) (cs := cs) (sz := sz) ?gB ?gF ?gX ?gN ?gT ?gA ?gf ?gk ?gh ?gD ?gU ?gb mr₈ mo₈ hics hcs0 ?g4 R₈.2.1 hrs4 hRF hsz26 hT₈ hLT₈ ?_
    case gA => exact rfl
    case gf => exact rfl
    case gk => exact rfl
    case gB => exact B₁
    case gF => exact F₉
    case gX => exact X₁
    case gN => exact N₉
    case gT => exact T₁
    case gh => exact rfl
    case gD => exact hD2
    case gU => exact hU2
    case gb => exact hb
    case g4 => omega
    intro s₁₀ news₁₀ lt ep₁₀ n sz' F₁₀ N₁₀ SL₁₀ mt₁₀ R₁₀ Run₁₀ hb₁₀ hos₁₀ T₁₀ L₁₀
    have mw₁₀ := SL₁₀ _ mw₈ (.inl rfl)
    have mo₁₀ := SL₁₀ _ mo₈ (.inl rfl)
    have mr₁₀ := SL₁₀ _ mr₈ (.inl rfl)
    have hk₁₀ := SL₁₀ _ hk₈ (.inr ⟨_, dK⟩)
    clear N₉
    dsimp only
    k_steps
    show wpAny _ _ _ _ _ _
    rename_i hA1 tkA D1 v1 ss1 c1 hA2 l1 i1 e1 p1 o1 p0 b1 q1 q2 q3 q4 D2 ws2 hA3 hI2 hC2 l2 hA4 lh hA5 l3 hA6 FZ NZ
    have hwsE : ([(n0 : Int), n1, n2, n3] : List Int) = (rs.map sz).map (fun n : Nat => (n : Int)) := by rw [← hszs]; rfl
    have hperm : ss1.reverse.Perm [(n0 : Int), n1, n2, n3] := (List.reverse_perm _).trans p1
    obtain ⟨tot, y1, y2, y3, y4, y5, y6⟩ := the_law Run₁₀ R₈.2.1 hrs4 hcs4 hcs0 hwsE hperm
    have hn1000 : n ≤ 1000 := by
      simp only [List.sum_cons, List.sum_nil] at y6
      omega
    have hss : ss1.reverse.length = 4 := by rw [List.length_reverse, e1]
    refine t_tail (lh := lh) (c6 := 0) (news := (D2, listOf ws2.toArray 0) :: (D1, listOf v1.toArray c1) :: news₁₀) (wv := [.int n0 t0, .int n1 t1, .int n2 t2, .int n3 t3]) (ws := [(n0 : Int), n1, n2, n3]) B₁ rfl rfl hD hU FZ NZ ?_ X₁ T₁ rfl rfl rfl rfl rfl rfl (.tail _ (.tail _ mw₁₀)) (.cons _ _ (.cons _ _ (.cons _ _ (.cons _ _ .nil)))) (.tail _ (.tail _ mo₁₀)) hics (.tail _ (.tail _ mr₁₀)) (.tail _ (.tail _ mt₁₀)) (.head _) hI2
      (.tail _ (.tail _ hk₁₀)) dK (fun r hr => (R₁₀ r hr).sub fun q hq => .tail _ (.tail _ hq)) hrs4 hn1000 rfl hcs4 hss (List.pairwise_reverse.mpr o1) ?_ tot y1 y2 y3 y4 ?_
    · intro q hq
      rcases List.mem_cons.mp hq with rfl | hq
      · exact l3.1
      · rcases List.mem_cons.mp hq with rfl | hq
        · exact l3.2.1
        · exact kst_ltOf l3.2.2 q hq
    · intro a ha
      simp only [List.mem_cons, List.not_mem_nil, or_false] at ha
      omega
    · intro h' tk' m' news' F' N' tb
      obtain ⟨⟨o1, x1, ⟨ps1, rfl, -⟩⟩, ⟨o2, x2, ⟨ps2, rfl, -⟩⟩⟩ := T₁₀
      obtain ⟨ps3, x3, -⟩ := L₁₀
      exact h _ m' news' F' N' hb₁₀ hos₁₀ ⟨ps1, ps2, ps3, tb _ _ (.tail _ (.tail _ x1)), tb _ _ (.tail _ (.tail _ x2)), tb _ _ (.tail _ (.tail _ x3))⟩
  · have := sizeLine_eq
    simp only [List.size_toArray, List.length_drop, List.length_take, List.length_cons, List.length_nil]
    omega
end
end Mine
-- M35
set_option maxHeartbeats 16000000
namespace Mine
theorem hd146' {P : Params} : codeHdIn (hd.heap_39 P) 146 142 = true := by kernel_rfl
theorem hd81' {P : Params} : codeHdIn (hd.heap_39 P) 81 77 = true := by kernel_rfl
theorem hd74' {P : Params} : codeHdIn (hd.heap_39 P) 74 70 = true := by kernel_rfl
theorem tabs_all {P : Params} {h : Heap} (X : (hd.heap_39 P).In h) (hT : ∀ q ∈ ([70, 77, 142] : List Addr), h.get? q = some (tabObj #[])) : TabsAt [(74, 70), (81, 77), (146, 142)] h := by
  intro q hq
  rcases List.mem_cons.mp hq with rfl | hq
  · exact ⟨codeHd_of_K X hd74', hT 70 (by simp)⟩
  · rcases List.mem_cons.mp hq with rfl | hq
    · exact ⟨codeHd_of_K X hd81', hT 77 (by simp)⟩
    · rcases List.mem_cons.mp hq with rfl | hq
      · exact ⟨codeHd_of_K X hd146', hT 142 (by simp)⟩
      · cases hq
/-- the law's end: True, the tables grown -/
theorem law_post {M : Model} {A : Around} {cd : Code} {s s₁ : Shared} {cw : ClaimW} {cl : Str → Option Addr} {mean : ExcName → Option Value} {args : List WData} {tabs : List (Addr × Addr)} (hT : TabsAt tabs s₁.heap) (hr : ∀ x, cw.raises args x = false) (hp : cw.post args (.bool true) args = true)
    (h : codeAny M A cd (fun r s' => r = .ok (.ret (.bool true)) ∧ (∀ b o, (ghostOf s₁.heap tabs).get? b = some o → s'.heap.get? b = some o) ∧ s'.os = s₁.os ∧ AllBare s'.gens ∧ GrownAll tabs s'.heap) s) : codeAny M A cd (GoodWG cw cl mean args s₁) s := by
  refine codeAny_mono h fun r s' hq => ?_
  obtain ⟨rfl, hk, hos, hb, hg⟩ := hq
  have told : ∀ b o, s₁.heap.get? b = some o → s'.heap.get? b = some o ∨ (isCodeTable s₁.heap b ∧ o = tabObj #[] ∧ ∃ ps, s'.heap.get? b = some (tabObj ps)) := by
    intro b o e
    by_cases hbt : b ∈ tabs.map (·.2)
    · right
      obtain ⟨q, hq, rfl⟩ := List.mem_map.mp hbt
      obtain ⟨t1, t2⟩ := hT q hq
      refine ⟨(t1.tab t2).isCodeTable, ?_, hg.get q hq⟩
      rw [t2] at e
      exact (Option.some.inj e).symm
    · exact .inl (hk b o (ghost_ne e hbt))
  refine ⟨.inl ⟨_, _, [], rfl, hr, ReadsW.bool true, hp, unshared_nil⟩, ⟨fun b o e => ?_, fun b o e => ?_⟩, hos, hb⟩
  · rcases told b o e with k | ⟨k1, rfl, ps, k2⟩
    · exact .inl k
    · refine .inr (.inl ⟨k1, rfl, #[], ps, rfl, ?_⟩)
      simpa using k2
  · rcases told b o e with k | ⟨-, -, ps, k2⟩
    · exact ⟨_, k⟩
    · exact ⟨_, k2⟩
end Mine
open Mine
theorem PySem.Challenge.cw_wr0007_01_holds : PySem.Challenge.rw_wr0007_01.Holds := by
  refine Mine.hd ?_
  w_strict (
    k_fill
    intro w s₀ s₁ mg mb G Y fa o pm cd doc dV kV ho hd hcd hD hmg hg args vals as hpre hlay hrd hwl hlo
    have KX := km_in_of Y
    have hT8 := km_tabs_of Y
    have X := (Ground.X G).1
    have V := (Ground.X G).2
    refine Ground.open G ?_
    intro T B D TE TW
    try (refine guard_noD D (by decide +kernel) ?_; clear D)
    have hT9 := tabs_all KX hT8
    clear hmg
    wrow_args hpre hlay hrd hwl hlo
    all_goals (
      first | refine callC_kw (enter_call ?_) | refine enter_call ?_
      w_top on
      refine law_post hT9 (fun _ => rfl) ?post ?_
      case post => first | rfl | wrow_post
      w_call any ho hd hcd hD T F
      clear hd
      kn_ghosts F T
      k_drop
      skip)
    (rename Below callerA _ _ _ => BK)
    (rename Fr _ _ _ _ => FK)
    (rename News _ _ _ _ => NK)
    (rename Frag.In _ (ghostOf _ _) => XK)
    (rename Top topProg _ _ _ _ _ => TK)
    (rename IntsAre _ _ => IK)
    refine t_body (cd := cd) (fa := fa) BK ?c1 ?c2 ?c3 ?c4 FK NK XK TK ?c5 lifted IK ?c6 ?c7 (.head _) (by assumption) ?c8 ?c9 ?c10
    case c1 => rfl
    case c2 => rfl
    case c3 => ktr_room
    case c4 => ktr_units
    case c5 => rw [hg]; exact fun i hi => by simp at hi
    case c6 => omega
    case c7 => rfl
    case c8 => exact ⟨⟨_, .tail _ (.head _), GenTab.nil _⟩, ⟨_, .tail _ (.tail _ (.head _)), GenTab.nil _⟩⟩
    case c9 => exact ⟨#[], .tail _ (.tail _ (.tail _ (.head _))), trivial, .inl rfl⟩
    case c10 =>
      rintro s' m' news' F' N' hb' hos' ⟨p1, p2, p3, x1, x2, x3⟩
      exact ⟨rfl, F'.keep, hos', hb', GrownAt.of N' x1, GrownAt.of N' x2, GrownAt.of N' x3, trivial⟩)
