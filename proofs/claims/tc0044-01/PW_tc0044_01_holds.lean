import PyProof.Rows.All
import Wide.All
import OpenK.AllK
import Wide.FinOn
import Lean
import PySem.Challenge.RW_tc0044_01
open PySem PySem.W PyProof.Rows
set_option Elab.async false
set_option maxRecDepth 100000
set_option maxHeartbeats 8000000
namespace Mine
local macro_rules | `(tactic| o_head (kHook $K $as $e)) => `(tactic| set_option synthInstance.maxSize 1 in o_head (kmHook $K $as $e [154, 161]))
open_top hd for PySem.Challenge.rw_tc0044_01
end Mine
theorem Mine.room0 {a m n R : Nat} (h : a + n < R) (e : m ≤ n) : a + m < R := Nat.lt_of_le_of_lt (Nat.add_le_add_left e a) h
theorem Mine.room1 {a c m n R : Nat} (h : a + n < R) (e : c + m ≤ n) : a + c + m < R := Nat.add_assoc a c m ▸ Mine.room0 h e
theorem Mine.room2 {a c d m n R : Nat} (h : a + n < R) (e : c + d + m ≤ n) : a + c + d + m < R := Nat.add_assoc a c d ▸ Mine.room1 h e
local macro_rules | `(tactic| ktr_room) => `(tactic| first | exact Mine.room1 (by assumption) (by decide) | exact Mine.room2 (by assumption) (by decide) | exact Mine.room0 (by assumption) (by decide) | fail)
local macro_rules | `(tactic| ktr_units) => `(tactic| first | exact Mine.room1 (by assumption) (by decide) | exact Mine.room2 (by assumption) (by decide) | exact Mine.room0 (by assumption) (by decide) | fail)
noncomputable def Mine.Ap (a b : Nat) : Prop := a ≠ b
theorem Mine.Ap.ne {a b : Nat} (h : Ap a b) : a ≠ b := h
theorem Mine.Ap.ne' {a b : Nat} (h : Ap a b) : b ≠ a := fun e => h e.symm
local macro_rules | `(tactic| k_ne) => `(tactic| ((try dsimp only); first | exact Mine.Ap.ne (by with_reducible assumption) | exact Mine.Ap.ne' (by with_reducible assumption) | exact Nat.ne_of_gt (by with_reducible assumption) | exact Nat.ne_of_lt (by with_reducible assumption) | decide | omega))
local macro_rules | `(tactic| k_units) => `(tactic| ktr_units)
local macro_rules | `(tactic| k_room) => `(tactic| ktr_room)
local macro_rules | `(tactic| k_all) => `(tactic| assumption)
section
open PySem PySem.W PySem.Spec PySem.Calls PyProof.Rows Builtin Builtin.ObjectAttr
example : (fun (_ : OpenLaw) (_ : Params → Frag) => True) PySem.Challenge.rw_tc0044_01 Mine.hd.heap_39 := by k_fill; trivial
end
example : True ∧ True := by first | (w_top off; walk1; done) | exact ⟨trivial, trivial⟩
section
open PySem PySem.W PySem.Spec PySem.Calls PyProof.Rows Builtin Builtin.ObjectAttr
example : (fun (_ : OpenLaw) (_ : Params → Frag) => True) PySem.Challenge.rw_tc0044_01 Mine.hd.heap_39 := by k_fill; trivial
namespace Mine
theorem turn_lt {n i : Nat} (h : i ≤ n) : n + 1 - (i + 1) < n + 1 - i := Nat.sub_lt_sub_left (Nat.lt_succ_of_le h) (Nat.lt_succ_self i)
theorem at_lt {n s : Nat} (h : n + 1 ≤ s) : s - (n + 1) < s := Nat.sub_lt_of_pos_le (Nat.succ_pos n) h
theorem at_up {n s : Nat} (h : n + 1 ≤ s) : s - (n + 1) + 1 = s - n := by rw [Nat.sub_add_eq]; exact Nat.sub_add_cancel (Nat.sub_pos_of_lt h)
theorem at_same {n s i j : Nat} (h : s - i = n + 1) (e : n + 1 - 1 + 1 + j = s) : j = i := by lia
noncomputable abbrev accObj (dx : Addr) (items : List Value) (ep : Nat) : Obj := { cls := .ref 192, dict := some dx, data := .seq items.toArray ep }
theorem acc_inst {h₀ h : Heap} {L x dx : Addr} {items : List Value} {ep : Nat} {od : Obj} {news : List (Addr × Obj)} (N : News h₀ L h news) (h1 : (x, accObj dx items ep) ∈ news) (h2 : (dx, od) ∈ news) :
    InstAt h x (accObj dx items ep) 192 (some od) := ⟨(N _ h1).1, rfl, rfl, (N _ h2).1⟩
section
variable {prog : Program} {w : World} {pT : Program} {A : Around} {E : Value → Shared → Prop} {s : Shared} {K : Frag} {x C : Addr} {ox : Obj} {od : Option Obj}
theorem isSub {base : Value} {M : Model} {h : Heap} {r : Bool} (X : K.In h) (I : InstAt h x ox C od) (e : subIn K (.ref C) base = some r) : Looks M h (isInstance (.ref x) base) r :=
  I.type.andThen (looks_subIn X e)
theorem check_meth {M : Model} {i owner n : String} {self : Value} {rest : List Value} {kw : List (Str × Value)} {Q : Unit → Shared → Prop}
    (hk : builtinKind i = some .method) (hs : splitId i = some (owner, n)) (hi : Looks M s.heap (isInstance self (.type owner)) true) (ha : argsOk i ⟨self :: rest, kw⟩) (q : Q () s) :
    wpAny M A (checkBuiltinCall i ⟨self :: rest, kw⟩) Q E s := by
  simp only [checkBuiltinCall, hk, hs]
  refine wpAny_bind (hi.here ?_)
  simp only [Bool.not_true, Bool.false_eq_true, if_false]
  cases hsig : Manifest.signature? i with
  | none => exact wpAny_pure q
  | some sig =>
    simp only [argsOk, hsig] at ha
    have h2 : Bind.checkArgs i sig ⟨self :: rest, kw⟩ = pure () := ha
    show wpAny M A (Bind.checkArgs i sig ⟨self :: rest, kw⟩) Q E s
    rw [h2]; exact wpAny_pure q
theorem special_bi {M : Model} {name : Str} {id : String} {args : List Value} {Q : Option Value → Shared → Prop} (X : K.In s.heap) (I : InstAt s.heap x ox C od)
    (hs : findIn K (.ref C) name = some (some (.builtin id))) (hb : ∀ self, bindSpecial (.builtin id) self = pure (.builtin id, [self])) (h : wpAny M A (call (.builtin id) (.ref x :: args)) (fun v => Q (some v)) E s) :
    wpAny M A (callSpecial? (.ref x) name args) Q E s := by
  refine wpAny_bind (wpAny_bind (I.type.here ((looks_findIn X hs).here (wpAny_holding (wpAny_bind ?_)))))
  rw [hb]
  exact wpAny_pure (wpAny_bind (wpAny_mono h (fun _ _ z => wpAny_pure z) fun _ _ z => z))
theorem ifBoundUnless_bi {M : Model} {name : Str} {id : String} {refuse : Sem Value} {Q : Option Value → Shared → Prop} (X : K.In s.heap) (I : InstAt s.heap x ox C od)
    (hs : findIn K (.ref C) name = some (some (.builtin id))) (hb : ∀ self, bindSpecial (.builtin id) self = pure (.builtin id, [self])) (h : wpAny M A (call (.builtin id) [.ref x]) (fun v => Q (some v)) E s) :
    wpAny M A (callSpecialIfBoundUnlessNone? (.ref x) name refuse) Q E s := by
  unfold callSpecialIfBoundUnlessNone? bindSpecialIfBound?
  have fin : wpAny M A (call (.builtin id) [.ref x] >>= fun v => pure (some v)) Q E s := wpAny_bind (wpAny_mono h (fun v s' h' => wpAny_pure h') fun _ _ h' => h')
  refine wpAny_holding (wpAny_bind (wpAny_bind (wpAny_bind (I.type.here ((looks_findIn X hs).here (wpAny_bind (wpAny_askSetting (wpAny_ite ?_))))))))
  rw [hb]
  split
  · refine wpAny_bind (wpAny_pure (wpAny_pure ?_))
    dsimp only
    rw [if_neg (by simp)]
    exact fin
  · refine wpAny_tryCatch (wpAny_bind (wpAny_pure (wpAny_pure ?_)))
    dsimp only
    rw [if_neg (by simp)]
    exact fin
end
end Mine
end
example : True ∧ True := by first | (w_top off; walk1; done) | exact ⟨trivial, trivial⟩
section
open PySem PySem.W PySem.Spec PySem.Calls PyProof.Rows Builtin Builtin.ObjectAttr
namespace Mine
theorem mapSeq_push (dx : Addr) (items : List Value) (ep : Nat) (v : Value) : Obj.mapSeq (·.push v) (accObj dx items ep) = accObj dx (items ++ [v]) (ep + 1) := by
  simp [Obj.mapSeq]
theorem lplain {s : String} (h : plainId s = true) : plainId s = true := h
section
variable {prog : Program} {w : World} {pT : Program} {A : Around} {E : Value → Shared → Prop} {s : Shared} {K : Frag} {x dx L : Addr} {h₀ : Heap} {m : Str → Option Value} {items : List Value} {ep : Nat} {od : Obj} {news news' : List (Addr × Obj)} {v : Value}
theorem upd_mem {d : Addr} {o o' : Obj} {l l' : List (Addr × Obj)} (U : Upd d o o' l l') : (d, o) ∈ l := by
  obtain ⟨pre, post, rfl, -, -, -⟩ := U.split
  simp
theorem acc_call {id : String} {b : Builtin} {rest : List Value} {Q : Value → Shared → Prop} (hq : plainId id = true) (hb : entryFor table id = some b)
    (hc : wpAny (model prog w) A.in1 (checkBuiltinCall id ⟨.ref x :: rest, []⟩) (fun _ s₁ => wpAny (model prog w) A.in1 (b ⟨.ref x :: rest, []⟩)
      (fun fin s' => match fin with | .done (.ret v) => Q v s' | _ => False) E s₁) E s) :
    wpAny (model prog w) A (call (.builtin id) (.ref x :: rest)) Q E s := by
  refine wpAny_call (codeAny_call_builtin hq hb (wpAny_mono hc (fun _ s₁ z => wpAny_mono z (fun fin s' y => ?_) fun _ _ y => y) fun _ _ y => y))
  rcases fin with (_ | _ | _ | _) | _ <;> first | exact y | exact y.elim
noncomputable def accHere (K : Frag) : Prop := subIn K (.ref 192) (.type "list") = some true ∧ noSeq K 192 = true
theorem acc_append {Q : Value → Shared → Prop} (F : Fr h₀ L s.heap m) (X₀ : K.In h₀) (N : News h₀ L s.heap news) (U : Upd x (accObj dx items ep) (accObj dx (items ++ [v]) (ep + 1)) news news') (hd : (dx, od) ∈ news)
    (hsub : subIn K (.ref 192) (.type "list") = some true) (hsz : items.length ≤ 1000)
    (h : ∀ h', Fr h₀ L h' m → News h₀ L h' news' → Q .none { s with heap := h' }) : wpAny (model prog w) A (call (.builtin "list.append") [.ref x, v]) Q E s := by
  have I := acc_inst N (upd_mem U) hd
  have X := X₀.keeps F.keep
  refine acc_call (b := Builtin.«list.append») (by decide +kernel) entry_list_append ?_
  refine check_meth (M := model prog w) (i := "list.append") (owner := "list") (n := "append") (self := .ref x) (rest := [v]) (kw := []) (by decide +kernel) (by decide +kernel) (isSub X I hsub) (args_list_append _ _) ?_
  show wpAny _ _ (updateSeq x (·.push v) >>= fun _ => ret .none) _ _ s
  refine wpAny_bind ?_
  have ho := (N _ (upd_mem U)).1
  refine wpAny_updateSeq (xs := items.toArray) (n := ep) ho rfl (wpAny_pure ?_) (by rw [List.size_toArray, sizeLine_eq]; lia) (by rw [Array.size_push, List.size_toArray, sizeLine_eq]; lia)
  obtain ⟨pre, post, rfl, rfl, p1, p2⟩ := U.split
  obtain ⟨F', N'⟩ := news_upd F N p1 p2 (mapSeq_push dx items ep v) rfl
  exact h _ F' N'
theorem acc_getInt {k : Int} {t : Tok} {Q : Value → Shared → Prop} (F : Fr h₀ L s.heap m) (X₀ : K.In h₀) (N : News h₀ L s.heap news) (hx : (x, accObj dx items ep) ∈ news) (hd : (dx, od) ∈ news)
    (hsub : subIn K (.ref 192) (.type "list") = some true) (hseq : noSeq K 192 = true) (hf : findIn K (.ref 192) "__getitem__" = some (some (.builtin "list.__getitem__")))
    (h0 : 0 ≤ k) (hfit : k < 2 ^ 63) (hk : items[k.toNat]? = some v) (h : Q v s) : wpAny (model prog w) A (getItem (.ref x) (.int k t)) Q E s := by
  have I := acc_inst N hx hd
  have X := X₀.keeps F.keep
  unfold getItem sequenceKey
  refine wpAny_holding (wpAny_bind (wpAny_bind (I.type.here ?_)))
  refine wpAny_bind ((anyM_none X hseq).here ?_)
  rw [if_pos (show (!false) = true from rfl)]
  refine wpAny_pure (wpAny_bind (special_bi X I hf slot_list_getitem.bind ?_))
  refine acc_call (b := Builtin.«list.__getitem__») (by decide +kernel) entry_list_getitem ?_
  refine check_meth (M := model prog w) (i := "list.__getitem__") (owner := "list") (n := "__getitem__") (self := .ref x) (rest := [.int k t]) (kw := []) (by decide +kernel) (by decide +kernel) (isSub X I hsub) (args_list_getitem _ _) ?_
  show wpAny _ _ (Builtin.List.listSubscript? (.int k t) >>= _) _ _ s
  refine wpAny_bind (wpAny_listSubscript_int (fitsIndex_of h0 hfit) ?_)
  clear hfit
  obtain ⟨j, rfl⟩ := Int.eq_ofNat_of_zero_le h0
  have hk' : items[j]? = some v := hk
  show wpAny _ _ ((seqItemAt x j >>= fun r => pure (r.map (j, ·))) >>= _) _ _ s
  refine wpAny_bind (wpAny_bind (wpAny_seqItemAt (N _ hx).1 rfl (wpAny_pure ?_)))
  rw [List.getElem?_toArray, hk']
  exact wpAny_pure (wpAny_pure h)
theorem acc_getSlice {sl : Addr} {vl vu vs : Value} {lo hi : Option Int} {Q : Value → Shared → Prop} (F : Fr h₀ L s.heap m) (X₀ : K.In h₀) (N : News h₀ L s.heap news) (hx : (x, accObj dx items ep) ∈ news) (hd : (dx, od) ∈ news)
    (hsub : subIn K (.ref 192) (.type "list") = some true) (hseq : noSeq K 192 = true) (hf : findIn K (.ref 192) "__getitem__" = some (some (.builtin "list.__getitem__")))
    (hs : s.heap.IsSliceOf sl vl vu vs) (pl : IsPart vl lo) (pu : IsPart vu hi) (ps : IsPart vs none) (hsz : items.length ≤ 1000)
    (h : Q (.ref s.heap.objs.size) { s with heap := s.heap.push { cls := .type "list", data := .seq (slicePick items.toArray lo hi none) } }) : wpAny (model prog w) A (getItem (.ref x) (.ref sl)) Q E s := by
  have I := acc_inst N hx hd
  have X := X₀.keeps F.keep
  obtain ⟨os, hos, hcs, hds⟩ := id hs
  have hTs : s.TypeIs (.ref sl) "slice" := ⟨os, hos, hcs⟩
  unfold getItem sequenceKey
  refine wpAny_holding (wpAny_bind (wpAny_bind (I.type.here ?_)))
  refine wpAny_bind ((anyM_none X hseq).here ?_)
  rw [if_pos (show (!false) = true from rfl)]
  refine wpAny_pure (wpAny_bind (special_bi X I hf slot_list_getitem.bind ?_))
  refine acc_call (b := Builtin.«list.__getitem__») (by decide +kernel) entry_list_getitem ?_
  refine check_meth (M := model prog w) (i := "list.__getitem__") (owner := "list") (n := "__getitem__") (self := .ref x) (rest := [.ref sl]) (kw := []) (by decide +kernel) (by decide +kernel) (isSub X I hsub) (args_list_getitem _ _) ?_
  show wpAny _ _ (Builtin.List.listSubscript? (.ref sl) >>= _) _ _ s
  refine wpAny_bind ?_
  unfold Builtin.List.listSubscript?
  refine wpAny_bind (wpAny_specialOf hTs slice_no_index ?_)
  simp only [Option.isNone_none, if_true]
  refine wpAny_pure ?_
  show wpAny _ _ (typeOf (.ref sl) >>= _) _ _ s
  refine wpAny_bind (wpAny_typeOf hTs ?_)
  rw [if_neg (by decide)]
  rw [listSliceParts_eq]
  refine wpAny_bind (wpAny_bind (wpAny_field hos hds (x := vs) rfl (wpAny_bind (wpAny_listPart ps ?_))))
  rw [if_neg (show ¬ ((rawPart none == rawInt 0) = true) from Bool.false_ne_true)]
  refine wpAny_bind (wpAny_field hos hds (x := vl) rfl (wpAny_bind (wpAny_listPart pl ?_)))
  refine wpAny_bind (wpAny_field hos hds (x := vu) rfl (wpAny_bind (wpAny_listPart pu (wpAny_pure ?_))))
  refine wpAny_bind (m := Builtin.List.listItems (.ref x)) ?_
  unfold Builtin.List.listItems
  refine wpAny_bind (wpAny_seqItems (N _ hx).1 rfl (wpAny_pure ?_))
  refine wpAny_bind (wpAny_of_eq (sliceIndices_raw lo hi none _ (by decide)) ?_)
  exact wpAny_bind (wpAny_newObj_type (wpAny_pure (wpAny_pure h)) (Nat.le_trans (slicePick_size_le _ lo hi none) (by rw [List.size_toArray, sizeLine_eq]; lia)))
theorem acc_iter {Q : Value → Shared → Prop} (F : Fr h₀ L s.heap m) (X₀ : K.In h₀) (N : News h₀ L s.heap news) (hx : (x, accObj dx items ep) ∈ news) (hd : (dx, od) ∈ news)
    (hsub : subIn K (.ref 192) (.type "list") = some true) (hf : findIn K (.ref 192) "__iter__" = some (some (.builtin "list.__iter__")))
    (h : Q (.ref s.heap.objs.size) { s with heap := s.heap.push { cls := .type "list_iterator", data := .fields #[.ref x, .int 0 0] } }) : wpAny (model prog w) A (pyIter (.ref x)) Q E s := by
  have I := acc_inst N hx hd
  have X := X₀.keeps F.keep
  unfold pyIter specialOf
  refine wpAny_bind (wpAny_bind (I.type.here ((looks_findIn X hf).here ?_)))
  show wpAny _ _ (callSpecialIfBoundUnlessNone? (.ref x) "__iter__" _ >>= _) _ _ s
  refine wpAny_bind (ifBoundUnless_bi X I hf slot_list_iter.bind ?_)
  refine acc_call (b := Builtin.«list.__iter__») (by decide +kernel) entry_list_iter ?_
  refine check_slot (M := model prog w) (i := "list.__iter__") (owner := "list") (n := "__iter__") (self := .ref x) (rest := []) (kw := []) (by decide +kernel) (by decide +kernel) (isSub X I hsub) (args_list_iter _) ?_
  show wpAny _ _ (newFields "list_iterator" [.ref x, rawInt 0] >>= _) _ _ s
  unfold newFields
  refine wpAny_bind (wpAny_newObj_type (wpAny_pure ?_) (by size_fits))
  exact wpAny_bind (wpAny_specialOf (T := "list_iterator") ⟨_, Heap.get?_push_size _ rfl, rfl⟩ slot_listiter_next.lookup (wpAny_pure h))
theorem mapSeq_erase (dx : Addr) (items : List Value) (ep : Nat) (v : Value) : Obj.mapSeq (·.eraseIdxIfInBounds items.length) (accObj dx (items ++ [v]) ep) = accObj dx items (ep + 1) := by
  simp [Obj.mapSeq, List.eraseIdx_append_of_length_le]
theorem cut_size {a n b : List Value} {i j : Nat} (e : a.toArray.extract 0 i ++ n.toArray ++ a.toArray.extract j a.length = b.toArray) (ha : a.length ≤ 1000) (hn : n.length ≤ 1000) : b.length ≤ 3000 := by
  have h := congrArg Array.size e
  rw [Array.size_append, Array.size_append, Array.size_extract, Array.size_extract, List.size_toArray, List.size_toArray, List.size_toArray] at h
  rw [← h]
  exact Nat.add_le_add (Nat.add_le_add (Nat.le_trans (Nat.sub_le _ _) (Nat.le_trans (Nat.min_le_right _ _) ha)) hn) (Nat.le_trans (Nat.sub_le _ _) (Nat.le_trans (Nat.min_le_right _ _) ha))
theorem acc_setSlice {sl l : Addr} {vl vu vs : Value} {lo hi : Option Int} {new items' : List Value} {nn ep' : Nat} {Q : Unit → Shared → Prop} (F : Fr h₀ L s.heap m) (X₀ : K.In h₀) (N : News h₀ L s.heap news) (hd : (dx, od) ∈ news)
    (hsub : subIn K (.ref 192) (.type "list") = some true) (hseq : noSeq K 192 = true) (hf : findIn K (.ref 192) "__setitem__" = some (some (.builtin "list.__setitem__")))
    (hs : s.heap.IsSliceOf sl vl vu vs) (pl : IsPart vl lo) (pu : IsPart vu hi) (ps : IsPart vs none) (hl : (l, W.listOf new.toArray nn) ∈ news) (hlx : l ≠ x) (hsz : items.length ≤ 1000) (hsz' : new.length ≤ 1000)
    (e : (items.toArray.extract 0 (sliceBounds lo hi none items.length).1.toNat ++ new.toArray ++ items.toArray.extract (max (sliceBounds lo hi none items.length).1 (sliceBounds lo hi none items.length).2.1).toNat items.length) = items'.toArray)
    (ee : ep' = if items'.length == items.length then ep else ep + 1)
    (U : Upd x (accObj dx items ep) (accObj dx items' ep') news news')
    (h : ∀ h', Fr h₀ L h' m → News h₀ L h' news' → Q () { s with heap := h' }) : wpAny (model prog w) A (setItem (.ref x) (.ref sl) (.ref l)) Q E s := by
  have I := acc_inst N (upd_mem U) hd
  have X := X₀.keeps F.keep
  obtain ⟨os, hos, hcs, hds⟩ := id hs
  have hTs : s.TypeIs (.ref sl) "slice" := ⟨os, hos, hcs⟩
  have ho := (N _ (upd_mem U)).1
  have hol := (N _ hl).1
  have hTl : s.TypeIs (.ref l) "list" := ⟨_, hol, rfl⟩
  unfold setItem sequenceKey
  refine wpAny_holding (wpAny_bind (wpAny_bind (I.type.here ?_)))
  refine wpAny_bind ((anyM_none X hseq).here ?_)
  rw [if_pos (show (!false) = true from rfl)]
  refine wpAny_pure (wpAny_bind (special_bi X I hf slot_list_setitem.bind ?_))
  refine acc_call (b := Builtin.«list.__setitem__») (by decide +kernel) entry_list_setitem ?_
  refine check_slot (M := model prog w) (i := "list.__setitem__") (owner := "list") (n := "__setitem__") (self := .ref x) (rest := [.ref sl, .ref l]) (kw := []) (by decide +kernel) (by decide +kernel) (isSub X I hsub) (args_list_setitem _ _ _) ?_
  show wpAny _ _ (Builtin.List.listSubscript? (.ref sl) >>= _) _ _ s
  refine wpAny_bind ?_
  unfold Builtin.List.listSubscript?
  refine wpAny_bind (wpAny_specialOf hTs slice_no_index ?_)
  simp only [Option.isNone_none, if_true]
  refine wpAny_pure ?_
  show wpAny _ _ (typeOf (.ref sl) >>= _) _ _ s
  refine wpAny_bind (wpAny_typeOf hTs ?_)
  rw [if_neg (by decide)]
  rw [listSliceParts_eq]
  refine wpAny_bind (wpAny_bind (wpAny_field hos hds (x := vs) rfl (wpAny_bind (wpAny_listPart ps ?_))))
  rw [if_neg (show ¬ ((rawPart none == rawInt 0) = true) from Bool.false_ne_true)]
  refine wpAny_bind (wpAny_field hos hds (x := vl) rfl (wpAny_bind (wpAny_listPart pl ?_)))
  refine wpAny_bind (wpAny_field hos hds (x := vu) rfl (wpAny_bind (wpAny_listPart pu (wpAny_pure ?_))))
  have hne : Builtin.List.listSameRef (.ref x) (.ref l) = false := by
    show (x == l) = false
    simpa using fun z => hlx z.symm
  rw [hne]
  rw [if_neg (by decide)]
  unfold Builtin.List.listAllItems Builtin.List.listItems
  refine wpAny_bind (wpAny_bind (wpAny_typeOf hTl ?_))
  rw [if_pos (by decide)]
  refine wpAny_bind (wpAny_seqItems hol rfl (wpAny_pure ?_))
  refine wpAny_bind (wpAny_bind (wpAny_seqItems ho rfl (wpAny_pure ?_)))
  refine wpAny_bind (wpAny_of_eq (sliceIndices_raw lo hi none _ (by decide)) ?_)
  rw [List.size_toArray]
  generalize hb : sliceBounds lo hi none items.length = bd at e ⊢
  obtain ⟨st, en, sp⟩ := bd
  have hsp : sp = 1 := by
    have := congrArg (·.2.2) hb
    exact this.symm
  subst hsp
  dsimp only at e ⊢
  rw [if_pos (by decide)]
  refine wpAny_bind (wpAny_rule ?_)
  rw [if_neg (by simp [Builtin.List.listTooLong, sizeLine_eq]; lia)]
  refine wpAny_bind ?_
  show wpAny _ _ (updateSeq x _) _ _ s
  have hmap : Obj.mapSeq (fun xs => xs.extract 0 st.toNat ++ new.toArray ++ xs.extract (max st en).toNat xs.size) (accObj dx items ep) = accObj dx items' ep' := by
    show (_ : Obj) = _
    unfold Obj.mapSeq
    dsimp only
    rw [List.size_toArray, e, List.size_toArray, ← ee]
  have hsz2 : items'.length ≤ 3000 := cut_size e hsz hsz'
  refine wpAny_updateSeq (xs := items.toArray) (n := ep) ho rfl ?_ (by rw [List.size_toArray, sizeLine_eq]; lia) ?_
  · refine wpAny_bind (wpAny_letGo (wpAny_pure ?_))
    obtain ⟨pre, post, rfl, rfl, p1, p2⟩ := U.split
    obtain ⟨F', N'⟩ := news_upd F N p1 p2 hmap rfl
    exact wpAny_pure (h _ F' N')
  · refine Nat.le_trans (Nat.le_of_eq (congrArg Array.size e)) ?_
    rw [List.size_toArray, sizeLine_eq]; lia
end
end Mine
end
example : True ∧ True := by first | (w_top off; walk1; done) | exact ⟨trivial, trivial⟩
section
open PySem PySem.W PySem.Spec PySem.Calls PyProof.Rows Builtin Builtin.ObjectAttr
namespace Mine
section
variable {prog : Program} {w : World} {pT : Program} {A : Around} {E : Value → Shared → Prop} {s : Shared} {K : Frag} {x dx L : Addr} {h₀ : Heap} {m : Str → Option Value} {items : List Value} {ep : Nat} {news news' : List (Addr × Obj)} {v : Value} {es es' : List DictEntry} {n n' : Nat} {name : Str}
theorem canon_list_ga : (Manifest.canonical "list.__getattribute__" != "object.__getattribute__") = false := by decide +kernel
noncomputable def accGet (K : Frag) : Bool := findIn K (.ref 192) "__getattribute__" == some (some (.builtin "list.__getattribute__")) && findIn K (.ref 192) "__getattr__" == some none
theorem method_fnA {pl : Sem Bool} {Q : Value × List Value → Shared → Prop} {f : Addr} (F : Fr h₀ L s.heap m) (X₀ : K.In h₀) (I : InstAt s.heap x (accObj dx items ep) 192 (some (dictOf es n)))
    (hga : findIn K (.ref 192) "__getattribute__" = some (some (.builtin "list.__getattribute__"))) (hk : findIn K (.ref 192) "__getattr__" = some none)
    (hf : findIn K (.ref 192) name = some (some (.ref f))) (ht : isFn K (.ref f) = true) (hl : getL name es = some none) (h : Q (.ref f, [.ref x]) s) :
    wpAny (model prog w) A (getMethod (.ref x) name pl) Q E s := by
  have X := X₀.keeps F.keep
  have hcan := canon_list_ga
  unfold getMethod specialOf
  refine wpAny_bind (wpAny_bind (I.type.here ((looks_findIn X hga).here ?_)))
  dsimp only
  rw [hcan, if_neg (by decide)]
  refine wpAny_bind (wpAny_bind (I.type.here ((looks_findIn X hk).here ?_)))
  refine wpAny_bind (wpAny_bind (I.type.here ((looks_findIn X hf).here (wpAny_bind ((looks_typeIn X (beq_iff_eq.mp ht)).here ?_)))))
  rw [if_neg (by decide +kernel)]
  refine wpAny_bind (wpAny_loadPart I.at_ ?_)
  have hd := I.dict
  refine wpAny_bind (wpAny_bind (wpAny_loadPart hd ?_))
  rw [nsLook_of (r := none) (by show lookIn name (dictOf es n) = _; rw [lookIn_dict, hl])]
  exact wpAny_pure (wpAny_bind (wpAny_rule (wpAny_pure h)))
theorem method_biA {pl : Sem Bool} {Q : Value × List Value → Shared → Prop} {id : String} (F : Fr h₀ L s.heap m) (X₀ : K.In h₀) (I : InstAt s.heap x (accObj dx items ep) 192 (some (dictOf es n)))
    (hga : findIn K (.ref 192) "__getattribute__" = some (some (.builtin "list.__getattribute__"))) (hk : findIn K (.ref 192) "__getattr__" = some none)
    (hf : findIn K (.ref 192) name = some (some (.builtin id))) (ht : typeIn K (.builtin id) = some (.type "method_descriptor")) (hl : getL name es = some none) (h : Q (.builtin id, [.ref x]) s) :
    wpAny (model prog w) A (getMethod (.ref x) name pl) Q E s := by
  have X := X₀.keeps F.keep
  have hcan := canon_list_ga
  unfold getMethod specialOf
  refine wpAny_bind (wpAny_bind (I.type.here ((looks_findIn X hga).here ?_)))
  dsimp only
  rw [hcan, if_neg (by decide)]
  refine wpAny_bind (wpAny_bind (I.type.here ((looks_findIn X hk).here ?_)))
  refine wpAny_bind (wpAny_bind (I.type.here ((looks_findIn X hf).here (wpAny_bind ((looks_typeIn X ht).here ?_)))))
  rw [if_neg (by decide +kernel)]
  refine wpAny_bind (wpAny_loadPart I.at_ ?_)
  have hd := I.dict
  refine wpAny_bind (wpAny_bind (wpAny_loadPart hd ?_))
  rw [nsLook_of (r := none) (by show lookIn name (dictOf es n) = _; rw [lookIn_dict, hl])]
  exact wpAny_pure (wpAny_bind (wpAny_rule (wpAny_pure h)))
theorem get_A {expr : Bool} {Q : Value → Shared → Prop} (F : Fr h₀ L s.heap m) (X₀ : K.In h₀) (I : InstAt s.heap x (accObj dx items ep) 192 (some (dictOf es n)))
    (hga : findIn K (.ref 192) "__getattribute__" = some (some (.builtin "list.__getattribute__"))) (hk : findIn K (.ref 192) "__getattr__" = some none) (hsub : subIn K (.ref 192) (.type "list") = some true)
    (hh : hasDictIn K 192 = true) (ha : findIn K (.ref 192) name = some none) (hl : getL name es = some (some v)) (hv : handedIn v = true) (h : Q v { s with toks := s.toks + 1 }) :
    wpAny (model prog w) A (getAttr (.ref x) name expr) Q E s := by
  have X := X₀.keeps F.keep
  obtain ⟨hh', g, d, t, os⟩ := s
  have L0 := I.type (M := model prog w)
  have L1 := looks_findIn (M := model prog w) X hga
  have L2 := looks_findIn (M := model prog w) X hk
  have L3 := looks_find (M := model prog w) X I (findObj_own (attr := none) hh ha rfl (by rw [lookIn_dict]; exact hl))
  have L4 := isSub (M := model prog w) X I hsub
  unfold getAttr getAttrBy
  refine wpAny_bind (wpAny_mkText (wpAny_holding (wpAny_bind (L0.at (wpAny_bind (L1.at ?_))))))
  show wpAny _ _ (getAttrByItsOwn (.ref x) (.str name t) (.ref 192) (.builtin "list.__getattribute__") true expr) _ _ _
  unfold getAttrByItsOwn
  show wpAny _ _ (typeLookup (.ref 192) "__getattr__" >>= _) _ _ _
  refine wpAny_bind (L2.at ?_)
  dsimp only [Option.toList]
  refine wpAny_bind (wpAny_attempt (wpAny_holding ?_))
  have e9 : (expr && onTheHeap (.builtin "list.__getattribute__")) = false := by cases expr <;> rfl
  unfold callGetattribute
  rw [e9, if_neg (by decide)]
  unfold boundAndCalled
  rw [PySem.F.slot_list_getattribute.bind (.ref x)]
  refine wpAny_bind (wpAny_pure ?_)
  show wpAny _ _ (call (.builtin "list.__getattribute__") [.ref x, .str name t]) _ _ _
  refine acc_call (b := Builtin.«object.__getattribute__») PySem.F.slot_list_getattribute.plain PySem.F.entry_list_ga ?_
  refine check_slot (M := model prog w) (i := "list.__getattribute__") (owner := "list") (n := "__getattribute__") (self := .ref x) (rest := [.str name t]) (kw := []) (by decide +kernel) (by decide +kernel) L4 (PySem.F.args_list_getattribute_2 _ _) ?_
  unfold Builtin.«object.__getattribute__»
  refine wpAny_bind (wpAny_pure (wpAny_bind (wpAny_pure (wpAny_bind (L0.at (wpAny_bind (L3.at ?_)))))))
  refine wpAny_pure ?_
  show wpAny _ _ (handedOut v) _ _ _
  rw [handedOut_of hv]; exact wpAny_pure h
theorem refuse_list (self : Value) : refuseLoop self "__setattr__" [.ref 192, .type "list", .type "object"] = pure () := by
  rw [refuseLoop_ref]
  kernel_rfl
theorem osa_A {cd : ClassData} {R : Result → Shared → Prop} {tk : Tok} {pre post : List (Addr × Obj)} (F : Fr h₀ L s.heap m) (X : K.In s.heap) (N : News h₀ L s.heap (pre ++ (dx, dictOf es n) :: post)) (I : InstAt s.heap x (accObj dx items ep) 192 (some (dictOf es n)))
    (hc : clsIn K 192 = some cd) (hm : cd.mro = [.ref 192, .type "list", .type "object"]) (hdd : cd.hasDict = true)
    (ht : takerIn K 192 name = some none) (hl : (getL name es).isSome = true) (h1 : ∀ p ∈ pre, p.1 ≠ dx) (h2 : ∀ p ∈ post, p.1 ≠ dx)
    (e1 : putL name (PyData.keyHash w.params name) (.str name s.toks) v es = es') (e2 : putN name es n = n') (hz : es'.length ≤ 1000)
    (h : ∀ h', Fr h₀ L h' m → News h₀ L h' (pre ++ (dx, dictOf es' n') :: post) → R (.ok (.ret .none)) { s with heap := h', toks := s.toks + 1 }) :
    codeAny (model prog w) A (.call (.builtin "object.__setattr__") ⟨[.ref x, .str name tk, v], []⟩) R s := by
  have SF := PySem.F.store_object
  have ne : cd.mro.isEmpty = false := by rw [hm]; rfl
  have sub : Looks (model prog w) s.heap (isInstance (.ref x) (.type "object")) true := I.type.andThen (looks_mroIn X (by unfold mroIn; rw [hc, Option.bind_some, if_neg (by rw [ne]; decide), hm]; rfl))
  refine codeAny_call_builtin SF.slot.plain SF.entry (@check_slot (model prog w) _ _ s "object.__setattr__" "object" "__setattr__" (.ref x) [.str name tk, v] [] _ SF.kind SF.split sub (SF.args (.ref x) (.str name tk) v) ?_)
  obtain ⟨attr, ha, hr⟩ := Option.bind_eq_some_iff.mp ht
  have hmr : Looks (model prog w) s.heap (mroOf (.ref 192)) cd.mro := (looks_clsIn X hc).andThen .now
  have L3 : Looks (model prog w) s.heap (storeTaker? attr) none := by
    cases attr with
    | none => exact .now
    | some a =>
      obtain ⟨b, hb, hb'⟩ := Option.map_eq_some_iff.mp hr
      refine (looks_takesIn X hb).andThen ?_
      cases b with
      | false => exact .now
      | true => cases hb'
  rw [osa_eq, refuse_eq]
  refine wpAny_bind (wpAny_bind (I.type.here (wpAny_bind (hmr.here ?_))))
  rw [hm, refuse_list]
  refine wpAny_pure (wpAny_bind (I.type.here (wpAny_bind ((looks_findIn X ha).here (wpAny_bind (L3.here ?_))))))
  have e3 : Obj.putName name (PyData.keyHash w.params name) (.str name s.toks) v (dictOf es n) = dictOf es' n' := by rw [putName_dict, e1, e2]
  obtain ⟨U1, U2⟩ := news_upd (f := Obj.putName name (PyData.keyHash w.params name) (.str name s.toks) v) F N h1 h2 e3 rfl
  have D := (N (dx, dictOf es n) (by simp)).1
  have D' := (U2 (dx, dictOf es' n') (by simp)).1
  obtain ⟨hx, -, -, -⟩ := I
  refine wpAny_bind (wpAny_pure (wpAny_bind (wpAny_bind (wpAny_loadPart hx (wpAny_bind ((looks_clsIn X hc).here ?_))))))
  rw [hdd]
  refine wpAny_pure (a := some dx) (wpAny_bind (wpAny_pure (wpAny_bind ?_)))
  unfold nsSet
  refine wpAny_bind (wpAny_bind (wpAny_askSetting (wpAny_pure (wpAny_bind (wpAny_mkText (wpAny_bind (wpAny_loadPart D ?_)))))))
  dsimp only
  have c : (!es.toArray.any (·.key.isStr name) && es.toArray.any (·.refKey)) = false := by
    rw [← Array.any_toList, ← Array.any_toList]
    unfold getL at hl
    split at hl
    · rename_i en he
      rw [List.any_eq_true.mpr ⟨en, List.mem_of_find?_eq_some he, List.find?_some he⟩]; rfl
    · split at hl
      · cases hl
      · rename_i z; rw [Bool.not_eq_true] at z; rw [z, Bool.and_false]
  rw [aRefKeyMayBeTheName_at, c]
  refine wpAny_updatePart D ?_
  refine wpAny_bind (wpAny_lookBehind D' (by exact pastItsLine_dict (by rw [List.size_toArray, sizeLine_eq]; lia)) ?_)
  exact wpAny_pure (h _ U1 U2)
theorem set_A {cd : ClassData} {Q : Unit → Shared → Prop} (F : Fr h₀ L s.heap m) (X₀ : K.In h₀) (N : News h₀ L s.heap news) (I : InstAt s.heap x (accObj dx items ep) 192 (some (dictOf es n)))
    (hc : clsIn K 192 = some cd) (hm : cd.mro = [.ref 192, .type "list", .type "object"]) (hdd : cd.hasDict = true)
    (hs : findIn K (.ref 192) "__setattr__" = some (some (.builtin "object.__setattr__"))) (ht : takerIn K 192 name = some none) (hl : (getL name es).isSome = true)
    (e : (putL name (PyData.keyHash w.params name) (.str name (s.toks + 1)) v es, putN name es n) = (es', n')) (U : Upd dx (dictOf es n) (dictOf es' n') news news') (hz : es'.length ≤ 1000)
    (h : ∀ h', Fr h₀ L h' m → News h₀ L h' news' → Q () { s with heap := h', toks := s.toks + 2 }) :
    wpAny (model prog w) A (setAttr (.ref x) name v) Q E s := by
  have X := X₀.keeps F.keep
  obtain ⟨pre, post, rfl, rfl, h1, h2⟩ := U.split
  obtain ⟨e1, e2⟩ := Prod.mk.inj e
  exact set_plain X I hs (osa_A (s := { s with toks := s.toks + 1 }) F X N I hc hm hdd ht hl h1 h2 e1 e2 hz fun h' F' N' => h h' F' N')
end
end Mine
end
example : True ∧ True := by first | (w_top off; walk1; done) | exact ⟨trivial, trivial⟩
section
open PySem PySem.W PySem.Spec PySem.Calls PyProof.Rows Builtin Builtin.ObjectAttr
namespace Mine
noncomputable def SeqAt (h : Heap) (l : Addr) (items : Array Value) : Prop := ∃ o n, h.get? l = some o ∧ o.data = .seq items n
theorem SeqAt.keep {h h' : Heap} {l : Addr} {items : Array Value} (x : SeqAt h l items) (k : ∀ o, h.get? l = some o → h'.get? l = some o) : SeqAt h' l items :=
  let ⟨o, n, e, d⟩ := x; ⟨o, n, k _ e, d⟩
section
variable {prog : Program} {w : World} {pT : Program} {A : Around} {E : Value → Shared → Prop} {s : Shared}
theorem seqNext_item {it l : Addr} {i : Nat} {items : Array Value} {x : Value} {Q : Option Value → Shared → Prop} (hit : s.heap.IsListIter it l i)
    (hl : SeqAt s.heap l items) (hx : items[i]? = some x)
    (hQ : ∀ h', h'.IsListIter it l (i + 1) → Heap.SameBut it s.heap h' → Q (some x) { s with heap := h' }) :
    wpAny (model prog w) A (pyNext (.ref it)) Q E s := by
  obtain ⟨o, ho, hc, hd⟩ := id hit
  obtain ⟨ol, nl, hol, hdl⟩ := hl
  unfold pyNext
  refine wpAny_bind (wpAny_attempt (wpAny_callSpecial?_slot (name := Str.ofString "__next__") hit.typeIs slot_listiter_next
    (wpAny_call_entry slot_listiter_next hit.typeIs entry_listiter_next ?_ (args_listiter_next _))))
  show wpAny _ _ (field (.ref it) 0 >>= _) _ _ s
  refine wpAny_bind (wpAny_field ho hd (x := .ref l) rfl ?_)
  show wpAny _ _ (if (Value.ref l == Value.none) = true then _ else _) _ _ s
  rw [if_neg (show ¬ ((Value.ref l == Value.none) = true) from Bool.false_ne_true)]
  show wpAny _ _ (field (.ref it) 1 >>= _) _ _ s
  refine wpAny_bind (wpAny_field ho hd (x := .int i 0) rfl ?_)
  show wpAny _ _ (seqItems? (.ref l) >>= _) _ _ s
  refine wpAny_bind (wpAny_seqItems hol hdl ?_)
  simp only [Int.toNat_natCast, hx]
  refine wpAny_bind (wpAny_setField ho hd (by simp) (wpAny_pure ⟨x, rfl, wpAny_pure (hQ _ ?_ (Heap.SameBut.update ..))⟩))
  exact ⟨_, Heap.get?_update_self _ ho (Obj.isFreed_of_fields (Obj.data_mapFields hd _)), (Obj.cls_mapFields ..).trans hc, by
    rw [Obj.data_mapFields hd]; simp [rawInt]⟩
theorem seqNext_end {it l : Addr} {i : Nat} {items : Array Value} {Q : Option Value → Shared → Prop} (hh : A.handled = none)
    (hit : s.heap.IsListIter it l i) (hl : SeqAt s.heap l items) (hx : items[i]? = none)
    (hQ : ∀ h', Heap.ExtBut it s.heap h' → Q none { s with heap := h' }) : wpAny (model prog w) A (pyNext (.ref it)) Q E s := by
  obtain ⟨o, ho, hc, hd⟩ := id hit
  obtain ⟨ol, nl, hol, hdl⟩ := hl
  unfold pyNext
  refine wpAny_bind (wpAny_attempt (wpAny_callSpecial?_slot (name := Str.ofString "__next__") hit.typeIs slot_listiter_next
    (wpAny_call_entry slot_listiter_next hit.typeIs entry_listiter_next ?_ (args_listiter_next _))))
  show wpAny _ _ (field (.ref it) 0 >>= _) _ _ s
  refine wpAny_bind (wpAny_field ho hd (x := .ref l) rfl ?_)
  show wpAny _ _ (if (Value.ref l == Value.none) = true then _ else _) _ _ s
  rw [if_neg (show ¬ ((Value.ref l == Value.none) = true) from Bool.false_ne_true)]
  show wpAny _ _ (field (.ref it) 1 >>= _) _ _ s
  refine wpAny_bind (wpAny_field ho hd (x := .int i 0) rfl ?_)
  show wpAny _ _ (seqItems? (.ref l) >>= _) _ _ s
  refine wpAny_bind (wpAny_seqItems hol hdl ?_)
  simp only [Int.toNat_natCast, hx]
  refine wpAny_bind (wpAny_rule (wpAny_bind (wpAny_setField ho hd (by simp) ?_)))
  show wpAny _ _ (newExc (.type "StopIteration") [] >>= _) _ _ _
  refine wpAny_bind ?_
  simp only [newExc, newTuple]
  refine wpAny_bind (wpAny_newObj_type ?_ (by size_fits))
  refine wpAny_bind (m := firstArgMember _ _) (wpAny_of_eq (a := Value.none) (by first | rfl | (simp only [firstArgMember]; rfl)) ?_)
  refine wpAny_newObj_type ?_ (by size_fits)
  simp only [raiseNew]
  refine wpAny_bind (wpAny_handled ?_)
  rw [show A.in1.handled = none from hh]
  refine wpAny_bind (wpAny_pure (wpAny_throw ?_))
  refine wpAny_bind (wpAny_isInstance (T := "StopIteration") (b := true) ⟨_, Heap.get?_push_size _ rfl, rfl⟩ isSubtype_stop ?_)
  exact wpAny_pure (hQ _ (((Heap.SameBut.update ..).extBut.push _).push _))
end
theorem seqWalks {prog : Program} {w : World} {A : Around} (hh : A.handled = none) (I ax : Addr) (hne : ax ≠ I) (items : Array Value) (Ts : Nat → Addr) (vals : Nat → Array Value)
    (hit : ∀ j, j < items.size → items[j]? = some (.ref (Ts j))) (hTI : ∀ j, j < items.size → Ts j ≠ I) :
    WalksU prog w A I (I :: ax :: (List.range items.size).map Ts) [I] items.size (fun j v => j < items.size ∧ v = vals j)
      (fun j h => h.IsListIter I ax j ∧ SeqAt h ax items ∧ ∀ k, k < items.size → h.IsTuple (Ts k) (vals k))
      (fun j T h => (j < items.size ∧ T = Ts j) ∧ h.IsListIter I ax (j + 1) ∧ SeqAt h ax items ∧ ∀ k, k < items.size → h.IsTuple (Ts k) (vals k)) where
  sub := fun b hb => by simp at hb; simp [hb]
  frame := fun _ _ _ st hk => ⟨st.1.at fun o e => hk I (by simp) o e, st.2.1.keep fun o e => hk ax (by simp) o e,
    fun k hk' => (st.2.2 k hk').at fun o e => hk (Ts k) (List.mem_cons_of_mem _ (List.mem_cons_of_mem _ (List.mem_map.mpr ⟨k, List.mem_range.mpr hk', rfl⟩))) o e⟩
  item := fun i s Q E hi st hQ => by
    refine seqNext_item st.1 st.2.1 (x := .ref (Ts i)) (hit i hi) fun h' hit' hs' => ?_
    have tup : ∀ k, k < items.size → h'.IsTuple (Ts k) (vals k) := fun k hk' => (st.2.2 k hk').extBut hs'.extBut (hTI k hk')
    exact hQ (Ts i) (vals i) h' s.toks ⟨hi, rfl⟩ (tup i hi) ⟨⟨hi, rfl⟩, hit', st.2.1.keep (fun o e => hs'.extBut _ o hne e), tup⟩ fun b o hb e => hs'.extBut b o (fun h => hb (by simp [h])) e
  go := fun _ _ _ _ _ s Q _ hm hQ => wpAny_letOwnedTupleGo_listiter hm.2.1 (hQ s.heap hm.2 fun _ _ _ e => e)
  apart := fun j T _ hm hmem => by
    rcases List.mem_cons.mp hmem with e | e
    · exact hTI j hm.1.1 (hm.1.2 ▸ e)
    · cases e
  done := fun s Q E st hQ => seqNext_end hh st.1 st.2.1 (by simp) fun h' he' => hQ h' s.toks fun b o hb e => he' b o (fun h => hb (by simp [h])) e
  self := fun _ _ _ _ st hQ => wpAny_pyIter_listiter st.1 hQ
end Mine
end
example : True ∧ True := by first | (w_top off; walk1; done) | exact ⟨trivial, trivial⟩
section
open PySem PySem.W PySem.Spec PySem.Calls PyProof.Rows Builtin Builtin.ObjectAttr
namespace Mine
section
variable {M : Model} {A : Around} {E : Value → Shared → Prop} {s : Shared}
theorem genCode {env : Env} {c P : Addr} {ps : Array Value} {pos : Pos} {qualname : Str} {scope : Scope} {Q : Value → Shared → Prop} (hc : env.code = .ref c) (hok : s.heap.IsCode c P ps) (htab : s.heap.TableAt c P ps)
    (hQ : ∀ code h' tk ps', Heap.ExtBut P s.heap h' → s.heap.objs.size ≤ h'.objs.size → h'.IsCode c P ps' → h'.TableAt c P ps' → Q code { s with heap := h', toks := tk }) :
    wpAny M A (genexprCode env pos qualname scope) Q E s := by
  cases hnf : codeAmong pos ps.toList with
  | none =>
    exact wpAny_genexprCodeX hc hok htab hnf fun c' h' tk hx hge hlt hcode _ ht _ => hQ _ h' tk _ hx (Nat.le_trans hge (Nat.le_of_lt hlt)) hcode ht
  | some cv =>
    obtain ⟨o, vs, file, tf, flags, tg, inF, text, tt, op, ho, hd, h11, h2, h7, h9, h10, hop, hpd, htr, hne⟩ := id hok
    unfold genexprCode codeAt
    rw [hc, if_neg (show ¬ ((Value.ref c == Value.none) = true) from Bool.false_ne_true)]
    refine wpAny_bind (wpAny_fieldsOf ho hd ?_)
    rw [h11]
    refine wpAny_bind (wpAny_fieldsOf hop hpd ?_)
    rw [hnf]
    exact wpAny_pure (hQ cv s.heap s.toks ps (Heap.ExtBut.refl _ _) (Nat.le_refl _) hok htab)
end
section
variable {prog : Program} {w : World} {pT : Program} {A : Around} {E : Value → Shared → Prop} {s : Shared} {h₀ : Heap} {c P L : Addr} {m mg : Str → Option Value} {bm : Addr} {ob : Obj}
structure TabIn (h₀ : Heap) (L : Addr) (c P : Addr) (h : Heap) (ps : Array Value) : Prop where
  code : h.IsCode c P ps
  tab : h.TableAt c P ps
  off : h₀.get? P = none
  ne : P ≠ L
theorem TabIn.keeps {h h' : Heap} {ps : Array Value} (x : TabIn h₀ L c P h ps) (k : ∀ b o, h.get? b = some o → h'.get? b = some o) : TabIn h₀ L c P h' ps :=
  ⟨x.code.keeps k, x.tab.keeps k, x.off, x.ne⟩
inductive GenTupSrc (prog : Program) (w : World) (A : Around) (h₀ : Heap) (L c P : Addr) (m : Str → Option Value) (elt : Expr) (scope : Scope) (cl : List (Str × Addr)) (env : Env) (xa xb : Str) (Q : Value → Shared → Prop) (it : Value) (s₂ : Shared) : Prop
  | mk (h1 : Fr h₀ L s₂.heap m) (h2 : AllBare s₂.gens) (h3 : s₂.heap.NoLimit) ps (h4 : TabIn h₀ L c P s₂.heap ps) K I fp wr n₀ Pt St₀ Mid (F : Nat → Value → Prop) (h5 : L ≤ K) (h6 : K < s₂.heap.objs.size) (h7 : it = .ref I) (h8 : (∀ A' : Around, A'.handled = none → WalksU prog w A' I fp wr n₀ Pt St₀ Mid)) (h9 : (∀ i vals, Pt i vals → ∃ va vb, vals = #[va, vb])) (h10 : St₀ 0 s₂.heap) (h11 : (∀ b ∈ fp, b < s₂.heap.objs.size)) (h12 : P ∉ fp) (h13 : (∀ b ∈ wr, K < b)) (h14 : (∀ (code : Value) (C : Addr) (A' : Around) E' i va vb (t : Shared) m₂, A'.handled = none → A'.depth ≤ A.depth + 1 → A'.units ≤ A.units + 8 → Pt i #[va, vb] → Fr h₀ C t.heap m₂ → m₂ xa = some va → m₂ xb = some vb → L < C → wpAny (model prog w) A' (eval elt (genEnv scope cl C code builtinsNs env)) (fun y s₃ => F i y ∧ Keeps t s₃) E' t)) (h15 : (∀ (a : Addr) (s₅ : Shared) ps', Fr h₀ L s₅.heap m → TabIn h₀ L c P s₅.heap ps' → AllBare s₅.gens → s₅.os = s₂.os → s₅.drawn = s₂.drawn → (∀ b o, b ≠ P → s₂.heap.get? b = some o → s₅.heap.get? b = some o) → Gen prog w A K a n₀ (fun j y => ∃ i, (List.range n₀)[j]? = some i ∧ F i y) s₅ → Q (.ref a) s₅)) : GenTupSrc prog w A h₀ L c P m elt scope cl env xa xb Q it s₂
theorem genTup {env : Env} {elt iter : Expr} {xa xb : Str} {pa pb pt : Pos} {kt : Nat} {scope : Scope} {cl : List (Str × Addr)} {pos : Pos} {Q : Value → Shared → Prop}
    (_F : Fr h₀ L s.heap m) (M : BMod h₀ env.globals mg bm ob) (hcode : env.code = .ref c)
    (hh : A.handled = none) (hco : scope.isCoroutine = false) (hclos : closureFor scope env = pure cl) (hcell : ∀ y ∈ scope.names, y.2 ≠ .cell) (h0 : scope.names.lookup (".0" : Str) = some NameKind.local)
    (hxa : scope.names.lookup xa = some .local) (hxb : scope.names.lookup xb = some .local) (hab : xa ≠ xb) (hkind : scope.kind = .function) (hroom : A.depth < recursionLimit)
    (h : wpAny (model prog w) A (eval iter env) (fun xv s₁ => wpAny (model prog w) A (pyIter xv) (fun it s₂ => GenTupSrc prog w A h₀ L c P m elt scope cl env xa xb Q it s₂) E s₁) E s)
    (hs : ∀ x, genFold iter env x = pure x) :
    wpAny (model prog w) A (eval (.GeneratorExp elt [⟨.Tuple [.Name xa pa, .Name xb pb] kt pt, iter, [], 0⟩] scope pos) env) Q E s := by
  refine wpAny_GeneratorExp_walksQTD hh hco hclos hcell h0 hxa hxb hab hkind hroom (wpAny_mono h (fun xv s₁ h₁' => wpAny_mono h₁' (fun it s₂ h₂ => ?_) fun _ _ e => e) fun _ _ e => e) hs
  obtain ⟨F₂, G₂, hlim, ps, hT, K, I, fp, wr, n₀, Pt, St₀, Mid, F, hKL, hLlt, rfl, W₀, hsz2, hst, hfp, hPf, hwr, hq2, hQ⟩ := h₂
  refine ⟨hlim, genCode hcode hT.code hT.tab fun code h₃ tk₃ ps' hx₃ hsz hcode₃ htab₃ => ?_⟩
  have hPh : ∀ b o, h₀.get? b = some o → b ≠ P := fun b o e q => by rw [q, hT.off] at e; cases e
  have F₃ : Fr h₀ L h₃ m := ⟨F₂.ns.extBut hx₃ (Ne.symm hT.ne), fun b o e => hx₃ b o (hPh b o e) (F₂.keep b o e), F₂.above⟩
  have M₃ : BMod h₃ env.globals mg bm ob := M.keeps F₃.keep
  have hcP : cStatics ≠ P := fun e => by
    obtain ⟨_, hns, _⟩ := hlim
    obtain ⟨o, es, ep, ho, hd, _⟩ := hns
    rw [e, hT.tab.2] at ho; cases ho; cases hd
  have hl₃ : h₃.NoLimit := hlim.extBut hx₃ hcP
  have hcw : cStatics ∉ wr := fun hm => by
    have h1 : L < cStatics := Nat.lt_of_le_of_lt hKL (hwr _ hm)
    have hL : L ≤ 1 := Nat.le_of_lt_succ h1
    have hb : bm < 1 := Nat.lt_of_lt_of_le (Heap.lt_size M.obj) (Nat.le_trans F₂.above hL)
    exact M.ne (Nat.lt_one_iff.mp hb)
  refine wpAny_builtinsFor M₃.ns M₃.name M₃.ne M₃.obj M₃.cls M₃.dict M₃.data ?_
  refine ⟨I, fp, wr, n₀, Pt, St₀, Mid, fun _ => true, F, rfl, W₀, hsz2, (W₀ A hh).frame _ _ _ hst (fun b hb o e => hx₃ b o (fun e' => hPf (e' ▸ hb)) e), (fun b hb => Nat.lt_of_lt_of_le (hfp b hb) hsz), hl₃, hcw,
    (fun href hhref => ?_), fun a h₅ tk gs hgb hag hsz₅ hk₅ W hat => ?_⟩
  · have hLC : L < h₃.objs.size := Nat.lt_of_lt_of_le F₂.ns.lt hsz
    have inB : ∀ (t : Shared) m₂, t.heap.Ns h₃.objs.size m₂ → (∀ b ∈ List.range h₃.objs.size, b ∉ wr → ∀ o, href.get? b = some o → t.heap.get? b = some o) → Fr h₀ h₃.objs.size t.heap m₂ := fun t m₂ hn hkp =>
      ⟨hn, fun b o e => hkp b (List.mem_range.mpr (Heap.lt_size (F₃.keep b o e))) (fun hm => Nat.lt_irrefl _ (Nat.lt_trans (Nat.lt_of_lt_of_le (Heap.lt_size e) F₃.above) (Nat.lt_of_le_of_lt hKL (hwr b hm)))) o (hhref b o (F₃.keep b o e)),
          Nat.le_trans F₃.above (Nat.le_of_lt hLC)⟩
    exact ⟨fun A' E' i va vb t m₂ hA hD hU hP hn hma hmb hkp => wpAny_tests_nil ⟨rfl, t.heap, t.toks, rfl, fun _ _ e => e⟩,
      fun A' E' i va vb t m₂ hA hD hU hP hp hn hma hmb hkp => hq2 code _ A' E' i va vb t m₂ hA hD hU hP (inB t m₂ hn hkp) hma hmb hLC⟩
  have hall : passing (fun _ => true) n₀ 0 = List.range n₀ := by simp [passing]
  rw [hall] at W
  rw [List.length_range] at W
  refine hQ a _ ps' (F₃.keeps hk₅) (TabIn.keeps ⟨hcode₃, htab₃, hT.off, hT.ne⟩ hk₅) (G₂.push hgb) rfl rfl (fun b o hb e => hk₅ b o (hx₃ b o hb e)) ⟨_, _, _, _, W, hat, (fun i s' st => st.1.typeIs), List.mem_cons_self, ?_, ?_⟩
  · intro b hb
    show b < h₅.objs.size
    rw [hsz₅]
    rcases List.mem_cons.mp hb with rfl | hb
    · exact Nat.lt_succ_self _
    · rcases List.mem_cons.mp hb with rfl | hb
      · exact Nat.lt_succ_of_lt hag
      · exact Nat.lt_succ_of_lt (Nat.lt_trans (List.mem_range.mp hb) hag)
  · intro b hb
    rcases List.mem_cons.mp hb with rfl | hb
    · exact Nat.lt_of_lt_of_le hLlt hsz
    · exact hwr b hb
end
end Mine
end
example : True ∧ True := by first | (w_top off; walk1; done) | exact ⟨trivial, trivial⟩
section
open PySem PySem.W PySem.Spec PySem.Calls PyProof.Rows Builtin Builtin.ObjectAttr
example : (fun (_ : OpenLaw) (_ : Params → Frag) => True) PySem.Challenge.rw_tc0044_01 Mine.hd.heap_39 := by k_fill; trivial
namespace Mine
section
variable {M : Model} {A : Around} {E : Value → Shared → Prop} {s : Shared} {h₀ : Heap} {C : Addr} {m mg mb : Str → Option Value} {scope : Scope} {cl : List (Str × Addr)} {code : Value} {bi : Addr} {env : Env} {x : Str} {pos : Pos} {v : Value} {Q : Value → Shared → Prop} {K : Frag} {p : Program} {loose : List Str}
theorem gen_local (F : Fr h₀ C s.heap m) (hv : m x = some v) (h : Q v s) (hk : (genEnv scope cl C code bi env).scope.kind = .function := by rfl) (hl : (genEnv scope cl C code bi env).kindOf x = some .local := by rfl) (hd : (x == ("__debug__" : Str)) = false := by decide) :
    wpAny M A (eval (.Name x pos) (genEnv scope cl C code bi env)) Q E s := wpAny_Name (wpAny_loadName_local hk hl F.ns hv h) hd
theorem gen_global (F : Fr h₀ C s.heap m) (X : K.In h₀) (T : TopRead p loose mg mb h₀) (hg : env.globals = mainGlobals) (e : nsIn K mainGlobals x = some (some v)) (h : Q v s) (hk : (genEnv scope cl C code bi env).scope.kind = .function := by rfl) (hl : (genEnv scope cl C code bi env).kindOf x = some .globalImplicit := by rfl) (hd : (x == ("__debug__" : Str)) = false := by decide) :
    wpAny M A (eval (.Name x pos) (genEnv scope cl C code bi env)) Q E s := by
  have hg' : (genEnv scope cl C code bi env).globals = mainGlobals := hg
  exact Calls.Name_function_global hk hl (Calls.loadGlobal_global (env := genEnv scope cl C code bi env) (mg := mg) (by rw [hg']; exact T.g.keeps F.keep) (mg_of X T.g e) h) hd
theorem gen_builtin (F : Fr h₀ C s.heap m) (X : K.In h₀) (T : TopRead p loose mg mb h₀) (hg : env.globals = mainGlobals) (hb : bi = builtinsNs) (e : nsIn K mainGlobals x = some none) (hv : bootBuiltins x = some v) (hn : x ≠ "__name__") (h : Q v s) (hk : (genEnv scope cl C code bi env).scope.kind = .function := by rfl) (hl : (genEnv scope cl C code bi env).kindOf x = some .globalImplicit := by rfl) (hd : (x == ("__debug__" : Str)) = false := by decide) :
    wpAny M A (eval (.Name x pos) (genEnv scope cl C code bi env)) Q E s := by
  have hg' : (genEnv scope cl C code bi env).globals = mainGlobals := hg
  subst hb
  exact Calls.Name_function_global hk hl (Calls.loadGlobal_builtin (env := genEnv scope cl C code builtinsNs env) (mg := mg) (mb := mb) (by rw [hg']; exact T.g.keeps F.keep) (mg_none_of X T.g e) (T.b.keeps F.keep) ((T.builtins x hn).trans hv) h) hd
end
section
variable {w : World} {pT : Program} {loose : List Str} {mg mb : Str → Option Value} {A' : Around} {E' : Value → Shared → Prop} {h₀ : Heap}
noncomputable abbrev lenScope : Scope := { kind := .function, names := [(Str.ofString ".0", .local), (Str.ofString "fws", .local), (Str.ofString "part", .local), (Str.ofString "len", .globalImplicit)], isGenerator := true, isCoroutine := false, more := [] }
theorem elt_len {p1 p2 p3 p4 p5 p6 p7 : Pos} {a b : Str} {ta tb : Tok} {C : Addr} {code : Value} {cn : Str} {sc : Scope} {L fa : Addr} {cd : Value} {t : Shared} {m₂ : Str → Option Value} (X : (Mine.hd.heap_39 w.params).In h₀) (T : TopRead pT loose mg mb h₀)
    (F : Fr h₀ C t.heap m₂) (ha : m₂ (Str.ofString "fws") = some (.str a ta)) (hb : m₂ (Str.ofString "part") = some (.str b tb)) (la : a.length ≤ 1000) (lb : b.length ≤ 1000) :
    wpAny (model PySem.Challenge.pw_tc0044_01 w) A' (eval (.BinOp (.Call (.Name (Str.ofString "len") p1) [.Name (Str.ofString "fws") p2] [] p3) .Add (.Call (.Name (Str.ofString "len") p4) [.Name (Str.ofString "part") p5] [] p6) p7) (genEnv lenScope [] C code builtinsNs (envOf cn sc L fa cd)))
      (fun y s₃ => (∃ u, y = .int ((a.length : Int) + b.length) u) ∧ Keeps t s₃) E' t := by
  repeat (first | with_reducible ((with_reducible show wpAny _ _ (eval (PySem.Expr.Name _ _) _) _ _ _); ((k_here; (with_reducible rename Fr _ _ _ _ => kF); k_dflt (first | (refine' gen_local kF ?v ?_; (case v => rfl); k_whole) | (refine' gen_local kF ?v ?_; (case v => assumption); k_whole) | (refine' gen_global kF ?k1 ?k2 ?k0 ?k3 ?_; (case k1 => k_asm); (case k2 => k_asm); (case k0 => rfl); (case k3 => k_is); k_whole) | (refine' gen_builtin kF ?k1 ?k2 ?k0 ?kb ?k3 ?k4 ?k5 ?_; (case k1 => k_asm); (case k2 => k_asm); (case k0 => rfl); (case kb => rfl); (case k3 => k_is); (case k4 => boot_by_name); (case k5 => decide); k_whole))))) | walk1)
  exact ⟨_, _, rfl, fun _ _ e => e⟩
noncomputable abbrev strScope : Scope := { kind := .function, names := [(Str.ofString ".0", .local), (Str.ofString "fws", .local), (Str.ofString "part", .local), (Str.ofString "EMPTYSTRING", .globalImplicit)], isGenerator := true, isCoroutine := false, more := [] }
theorem elt_str {p1 p3 p4 p5 : Pos} {q1 q2 q3 q4 : Nat} {a b : Str} {ta tb : Tok} {C : Addr} {code : Value} {cn : Str} {sc : Scope} {L fa : Addr} {cd : Value} {t : Shared} {m₂ : Str → Option Value} (X : (Mine.hd.heap_39 w.params).In h₀) (T : TopRead pT loose mg mb h₀)
    (F : Fr h₀ C t.heap m₂) (ha : m₂ (Str.ofString "fws") = some (.str a ta)) (hb : m₂ (Str.ofString "part") = some (.str b tb)) (la : a.length ≤ 1000) (lb : b.length ≤ 1000) :
    wpAny (model PySem.Challenge.pw_tc0044_01 w) A' (eval (.Call (.Attribute (.Name (Str.ofString "EMPTYSTRING") p1) (Str.ofString "join") ⟨128, q1, 128, q2⟩) [.Tuple [.Name (Str.ofString "fws") p3, .Name (Str.ofString "part") p4] 0 p5] [] ⟨128, q3, 128, q4⟩) (genEnv strScope [] C code builtinsNs (envOf cn sc L fa cd)))
      (fun y s₃ => (∃ u, y = .str (a ++ b) u) ∧ Keeps t s₃) E' t := by
  have N := (News.nil : News h₀ C t.heap [])
  iterate 11 (first | with_reducible ((with_reducible show wpAny _ _ (eval (PySem.Expr.Name _ _) _) _ _ _); ((k_here; (with_reducible rename Fr _ _ _ _ => kF); k_dflt (first | (refine' gen_local kF ?v ?_; (case v => rfl); k_whole) | (refine' gen_local kF ?v ?_; (case v => assumption); k_whole) | (refine' gen_global kF ?k1 ?k2 ?k0 ?k3 ?_; (case k1 => k_asm); (case k2 => k_asm); (case k0 => rfl); (case k3 => k_is); k_whole) | (refine' gen_builtin kF ?k1 ?k2 ?k0 ?kb ?k3 ?k4 ?k5 ?_; (case k1 => k_asm); (case k2 => k_asm); (case k0 => rfl); (case kb => rfl); (case k3 => k_is); (case k4 => boot_by_name); (case k5 => decide); k_whole))))) | walk1)
  (with_reducible rename Fr _ _ _ _ => F)
  refine wpAny_newTuple ?_ (by size_fits)
  have F₂ := F.push { cls := .type "tuple", data := .seq [Value.str a ta, Value.str b tb].toArray }
  have N₂ := N.push F { cls := .type "tuple", data := .seq [Value.str a ta, Value.str b tb].toArray }
  repeat (first | walk1 | (dsimp only; walk1))
  exact ⟨_, _, rfl, fun _ _ e => Heap.get?_push_of_some _ e⟩
end
end Mine
end
example : True ∧ True := by first | (w_top off; walk1; done) | exact ⟨trivial, trivial⟩
section
open PySem PySem.W PySem.Spec PySem.Calls PyProof.Rows Builtin Builtin.ObjectAttr
namespace Mine
section
variable {prog : Program} {w : World} {pT : Program} {A : Around} {E : Value → Shared → Prop} {s : Shared} {h₀ : Heap} {L K a : Addr} {m : Str → Option Value} {n : Nat} {F : Nat → Value → Prop}
theorem args_sum2 (a b : Value) : argsOk "sum" ⟨[a, b], []⟩ := by unfold argsOk; kernel_rfl
theorem call_sum0 {x : Value} {t0 : Tok} {Q : Value → Shared → Prop}
    (h : wpAny (model prog w) A.in1 (pyIter x) (fun it s₂ => ∃ I fp wr G n P St val, it = .ref I ∧ WalksS prog w A.in1 I fp wr G n P St ∧ St 0 s₂ ∧ (∀ b ∈ fp, b < s₂.heap.objs.size) ∧
      (∀ i v, P i v → ∃ t, v = .int (val i) t) ∧ (∀ j, j < n → InLong (val j) ∧ InLong (preSum val (j + 1))) ∧
      ∀ s' t', Moved wr G s₂ s' → Q (.int (preSum val n) t') s') E s) :
    wpAny (model prog w) A (call (.builtin "sum") [x, .int 0 t0]) Q E s := by
  refine call_function_tree PySem.F.kind_sum PySem.F.plain_sum PySem.F.entry_sum (args_sum2 _ _) ?_
  unfold Builtin.«sum»
  simp only [List.length_cons, List.length_nil]
  rw [if_neg (by decide)]
  refine wpAny_bind (wpAny_of_eq (show Builtin.Builtins.bindParams "sum" ["start"] 0 ⟨[.int 0 t0], []⟩ = pure [some (.int 0 t0)] from rfl) ?_)
  refine wpAny_bind (wpAny_mono h (fun it s₂ h₂ => ?_) fun _ _ e => e)
  obtain ⟨I, fp, wr, G, n, P, St, val, rfl, W, hst, hfp, hval, hfit, hQ⟩ := h₂
  dsimp only
  rw [if_pos (by decide)]
  refine wpAny_bind (wpAny_rule (wpAny_bind (wpAny_mkInt ?_)))
  refine wpAny_bind (wpAny_pure ?_)
  simp only [List.forIn_cons, List.forIn_nil]
  refine wpAny_bind (wpAny_bind (wpAny_bind (wpAny_isInstance (T := "int") (b := false) (typeIs_int _ _ _) PySem.F.sub_int_str ?_)))
  simp only [Bool.false_eq_true, if_false]
  refine wpAny_pure (wpAny_bind (wpAny_bind (wpAny_isInstance (T := "int") (b := false) (typeIs_int _ _ _) PySem.F.sub_int_bytes ?_)))
  simp only [Bool.false_eq_true, if_false]
  refine wpAny_pure (wpAny_bind (wpAny_bind (wpAny_isInstance (T := "int") (b := false) (typeIs_int _ _ _) PySem.F.sub_int_bytearray ?_)))
  simp only [Bool.false_eq_true, if_false]
  refine wpAny_pure (wpAny_pure ?_)
  refine wpAny_bind (wpAny_newObj_type ?_)
  have hSf : s₂.heap.objs.size ∉ fp := fun hm => Nat.lt_irrefl _ (hfp _ hm)
  refine wpAny_pure ⟨plainId_quiet PySem.F.plain_sum_loop _, codeAny_sum_loopS W val hval hfit s₂.heap.objs.size hSf n 0 _ s₂.toks 0 rfl (Nat.zero_le _)
    (W.frame 0 s₂ _ _ hst (by first | exact Nat.le_refl _ | exact Nat.le_succ _ | lia) fun b _ o e => Heap.get?_push_of_some _ e) (Heap.get?_push_size _ rfl) fun s' t' hm => ?_⟩
  exact hQ s' t' (hm.drop_new (by first | exact Nat.le_refl _ | exact Nat.le_succ _ | lia))
theorem sum0_rows {t0 : Tok} {Q : Value → Shared → Prop} (Fh : Fr h₀ L s.heap m) (G : AllBare s.gens) (X : Gen prog w A K a n F s) (hLK : L ≤ K) (val : Nat → Int) (hval : ∀ j v, F j v → ∃ t, v = .int (val j) t) (hfit : ∀ j, j < n → InLong (val j) ∧ InLong (preSum val (j + 1)))
    (hQ : ∀ s' t', Fr h₀ L s'.heap m → AllBare s'.gens → s'.os = s.os → s'.drawn = s.drawn → (∀ b o, b ≤ K → s.heap.get? b = some o → s'.heap.get? b = some o) → Q (.int (preSum val n) t') s') : wpAny (model prog w) A (call (.builtin "sum") [.ref a, .int 0 t0]) Q E s := by
  obtain ⟨fp, wr, g, St, W, hst, _, _, hfp, hwr⟩ := X
  have W := W.in4_1
  exact call_sum0 (W.self 0 _ _ _ hst ⟨a, _, _, _, _, _, _, val, rfl, W, hst, hfp, hval, hfit, fun s' t' hm => hQ s' t' (Fh.moved hm fun b hb => Nat.lt_of_le_of_lt hLK (hwr b hb)) (G.movedS hm) hm.os hm.drawn fun b o hb e => hm.heap b o (fun hmem => Nat.lt_irrefl _ (Nat.lt_of_lt_of_le (hwr b hmem) hb)) e⟩)
end
end Mine
end
section
open PySem PySem.W PySem.Spec PySem.Calls PyProof.Rows Builtin Builtin.ObjectAttr Mine
example : True ∧ True := by first | (w_top off; walk1; done) | exact ⟨trivial, trivial⟩
section
open PySem PySem.W PySem.Spec PySem.Calls PyProof.Rows Builtin Builtin.ObjectAttr
example : (fun (_ : OpenLaw) (_ : Params → Frag) => True) PySem.Challenge.rw_tc0044_01 Mine.hd.heap_39 := by k_fill; trivial
namespace Mine
noncomputable abbrev tup2 (a : Str) (ta : Tok) (b : Str) (tb : Tok) : Obj := { cls := .type "tuple", data := .seq #[.str a ta, .str b tb] }
inductive PartsAre (nw : List (Addr × Obj)) : List Value → List (Str × Str) → Prop
  | nil : PartsAre nw [] []
  | cons {T : Addr} {a b : Str} {ta tb : Tok} {vs : List Value} {ps : List (Str × Str)} : (T, tup2 a ta b tb) ∈ nw → PartsAre nw vs ps → PartsAre nw (.ref T :: vs) ((a, b) :: ps)
theorem PartsAre.mono {nw nw' : List (Addr × Obj)} (hs : ∀ p ∈ nw, p ∈ nw') : ∀ {vs : List Value} {ps : List (Str × Str)}, PartsAre nw vs ps → PartsAre nw' vs ps
  | _, _, .nil => .nil
  | _, _, .cons h r => .cons (hs _ h) (r.mono hs)
theorem PartsAre.length {nw : List (Addr × Obj)} : ∀ {vs : List Value} {ps : List (Str × Str)}, PartsAre nw vs ps → vs.length = ps.length
  | _, _, .nil => rfl
  | _, _, .cons _ r => congrArg (· + 1) r.length
theorem PartsAre.snoc {nw : List (Addr × Obj)} {T : Addr} {a b : Str} {ta tb : Tok} (h : (T, tup2 a ta b tb) ∈ nw) : ∀ {vs : List Value} {ps : List (Str × Str)}, PartsAre nw vs ps → PartsAre nw (vs ++ [.ref T]) (ps ++ [(a, b)])
  | _, _, .nil => .cons h .nil
  | _, _, .cons h' r => .cons h' (r.snoc h)
theorem PartsAre.fns {nw : List (Addr × Obj)} : ∀ {vs : List Value} {ps : List (Str × Str)}, PartsAre nw vs ps → ∃ (Ts : Nat → Addr) (ta tb : Nat → Tok),
    ∀ j, j < vs.length → vs[j]? = some (.ref (Ts j)) ∧ (Ts j, tup2 (ps.getD j default).1 (ta j) (ps.getD j default).2 (tb j)) ∈ nw
  | _, _, .nil => ⟨fun _ => 0, fun _ => 0, fun _ => 0, fun _ h => absurd h (Nat.not_lt_zero _)⟩
  | _, _, .cons (T := T) (ta := ta) (tb := tb) h r => by
    obtain ⟨Ts, fa, fb, hf⟩ := r.fns
    refine ⟨fun j => match j with | 0 => T | j + 1 => Ts j, fun j => match j with | 0 => ta | j + 1 => fa j, fun j => match j with | 0 => tb | j + 1 => fb j, fun j hj => ?_⟩
    cases j with
    | zero => exact ⟨rfl, h⟩
    | succ j => exact hf j (Nat.lt_of_succ_lt_succ hj)
noncomputable def partLen (p : Str × Str) : Int := (p.1.length : Int) + p.2.length
noncomputable def sumLen (ps : List (Str × Str)) : Int := (ps.map partLen).sum
theorem preSum_sumLen (ps : List (Str × Str)) : ∀ n, n ≤ ps.length → preSum (fun j => partLen (ps.getD j default)) n = sumLen (ps.take n)
  | 0, _ => rfl
  | n + 1, h => by
    have h' : n < ps.length := h
    have e1 : ps.take (n + 1) = ps.take n ++ [ps[n]] := by rw [List.take_add_one, List.getElem?_eq_getElem h']; rfl
    have e2 : ps.getD n default = ps[n] := by simp [List.getD_eq_getElem?_getD, h']
    rw [preSum, preSum_sumLen ps n (Nat.le_of_lt h'), e1, e2]
    unfold sumLen
    rw [List.map_append, List.sum_append, List.map_cons, List.map_nil, List.sum_cons, List.sum_nil, Int.add_zero]
theorem sumLen_bound {B : Nat} : ∀ {ps : List (Str × Str)}, (∀ p ∈ ps, p.1.length ≤ B ∧ p.2.length ≤ B) → 0 ≤ sumLen ps ∧ sumLen ps ≤ 2 * B * ps.length
  | [], _ => ⟨Int.le_refl _, by simp [sumLen]⟩
  | p :: r, h => by
    have ⟨a, b⟩ := sumLen_bound (ps := r) fun q hq => h q (.tail _ hq)
    have ⟨c, d⟩ := h p (.head _)
    have e : sumLen (p :: r) = partLen p + sumLen r := by simp [sumLen]
    have l : ((p :: r).length : Int) = r.length + 1 := by simp
    rw [e, l, Int.mul_add]
    unfold partLen
    constructor <;> lia
theorem codeHd_len {w : World} {h : Heap} (X : (Mine.hd.heap_39 w.params).In h) : CodeHd h 158 154 := ⟨_, _, _, _, _, _, _, _, _, X 158 _ (by k_is), rfl, rfl, rfl, rfl, rfl, rfl, rfl, rfl, by decide⟩
theorem codeHd_str {w : World} {h : Heap} (X : (Mine.hd.heap_39 w.params).In h) : CodeHd h 165 161 := ⟨_, _, _, _, _, _, _, _, _, X 165 _ (by k_is), rfl, rfl, rfl, rfl, rfl, rfl, rfl, rfl, by decide⟩
section
variable {prog : Program} {w : World} {pT : Program} {A : Around} {E : Value → Shared → Prop} {s : Shared} {K : Frag} {x dx L P c : Addr} {h₀ : Heap} {m : Str → Option Value} {items : List Value} {ep : Nat} {od : Obj} {nw : List (Addr × Obj)} {parts : List (Str × Str)} {ps : Array Value} {p : Program} {loose : List Str} {mean : ExcName → Option Value} {mg mb : Str → Option Value}
theorem genAcc {elt : Expr} {pa pb pt pn : Pos} {kt : Nat} {scope : Scope} {pos : Pos} {cn : Str} {sc : Scope} {fa : Addr} {Q : Value → Shared → Prop} {F : Nat → Value → Prop}
    (F₁ : Fr h₀ L s.heap m) (X₁ : K.In h₀) (T₁ : Top p loose mean mg mb h₀) (N₁ : News h₀ L s.heap ((x, accObj dx items ep) :: (dx, od) :: nw)) (hT : TabIn h₀ L c P s.heap ps) (PA : PartsAre nw items parts)
    (hPx : P ≠ x) (hPn : ∀ q ∈ nw, q.1 ≠ P) (G : AllBare s.gens) (hself : m (Str.ofString "self") = some (.ref x))
    (hsub : subIn K (.ref 192) (.type "list") = some true) (hiter : findIn K (.ref 192) "__iter__" = some (some (.builtin "list.__iter__")))
    (hh : A.handled = none) (hco : scope.isCoroutine = false) (hclos : closureFor scope (envOf cn sc L fa (.ref c)) = pure []) (hcell : ∀ y ∈ scope.names, y.2 ≠ .cell) (h0 : scope.names.lookup (".0" : Str) = some NameKind.local)
    (hxa : scope.names.lookup (Str.ofString "fws") = some .local) (hxb : scope.names.lookup (Str.ofString "part") = some .local) (hkind : scope.kind = .function) (hk : sc.kind = .function) (hl : (envOf cn sc L fa (.ref c)).kindOf (Str.ofString "self") = some .local) (hroom : A.depth < recursionLimit)
    (helt : ∀ i, i < parts.length → ∀ (code : Value) (C : Addr) (A' : Around) E' (t : Shared) m₂ ta tb, A'.handled = none → Fr h₀ C t.heap m₂ → m₂ (Str.ofString "fws") = some (.str (parts.getD i default).1 ta) → m₂ (Str.ofString "part") = some (.str (parts.getD i default).2 tb) →
      wpAny (model prog w) A' (eval elt (genEnv scope [] C code builtinsNs (envOf cn sc L fa (.ref c)))) (fun y s₃ => F i y ∧ Keeps t s₃) E' t)
    (h : ∀ (a : Addr) (s₅ : Shared) ps' K', L ≤ K' → (∀ q ∈ (x, accObj dx items ep) :: (dx, od) :: nw, q.1 ≤ K') → P ≤ K' → Fr h₀ L s₅.heap m → News h₀ L s₅.heap ((x, accObj dx items ep) :: (dx, od) :: nw) → TabIn h₀ L c P s₅.heap ps' → AllBare s₅.gens → s₅.os = s.os → s₅.drawn = s.drawn →
      Gen prog w A K' a items.length (fun j y => ∃ i, (List.range items.length)[j]? = some i ∧ F i y) s₅ → Q (.ref a) s₅)
    (hPd : P ≠ dx) (hs : ∀ v, genFold (.Name (Str.ofString "self") pn) (envOf cn sc L fa (.ref c)) v = pure v := by intro _; rfl) :
    wpAny (model prog w) A (eval (.GeneratorExp elt [⟨.Tuple [.Name (Str.ofString "fws") pa, .Name (Str.ofString "part") pb] kt pt, .Name (Str.ofString "self") pn, [], 0⟩] scope pos) (envOf cn sc L fa (.ref c))) Q E s := by
  obtain ⟨bm, ob, M⟩ := bmod_of_top T₁
  obtain ⟨Ts, fa', fb, hf⟩ := PA.fns
  have hlen := PA.length
  have hxl := Heap.lt_size (N₁ _ (.head _)).1
  have hPl := Heap.lt_size hT.tab.2
  have hal : ∀ q ∈ (x, accObj dx items ep) :: (dx, od) :: nw, q.1 ≤ s.heap.objs.size - 1 := fun q hq => Nat.le_sub_one_of_lt (Heap.lt_size (N₁ q hq).1)
  refine genTup (P := P) (c := c) F₁ M rfl hh hco hclos hcell h0 hxa hxb (by decide) hkind hroom ?_ hs
  refine ld F₁ hself ?_ hk hl (by decide)
  refine acc_iter F₁ X₁ N₁ (.head _) (.tail _ (.head _)) hsub hiter ?_
  have up : ∀ b o, s.heap.get? b = some o → (s.heap.push { cls := .type "list_iterator", data := .fields #[.ref x, .int 0 0] }).get? b = some o := fun _ _ e => Heap.get?_push_of_some _ e
  have tl : ∀ j, j < items.length → Ts j < s.heap.objs.size := fun j hj => Heap.lt_size (N₁ _ (.tail _ (.tail _ (hf j hj).2))).1
  refine ⟨F₁.push _, G, (T₁.nolimit.keeps F₁.keep).keeps up, ps, hT.keeps up, s.heap.objs.size - 1, s.heap.objs.size, s.heap.objs.size :: x :: (List.range items.toArray.size).map Ts, [s.heap.objs.size], items.toArray.size,
    (fun j v => j < items.toArray.size ∧ v = #[.str (parts.getD j default).1 (fa' j), .str (parts.getD j default).2 (fb j)]), _, _, F, Nat.le_sub_one_of_lt F₁.ns.lt, ?_, rfl,
    (fun A' hA => seqWalks hA _ x (Nat.ne_of_lt hxl) items.toArray Ts (fun j => #[.str (parts.getD j default).1 (fa' j), .str (parts.getD j default).2 (fb j)]) (fun j hj => ?_) (fun j hj => ?_)), ?_, ?_, ?_, ?_, ?_, ?_, ?_⟩
  · show _ < (Heap.push _ _).objs.size
    rw [Heap.size_push]
    exact Nat.lt_succ_of_le (Nat.sub_le _ _)
  · rw [List.size_toArray] at hj
    rw [List.getElem?_toArray]
    exact (hf j hj).1
  · rw [List.size_toArray] at hj
    exact Nat.ne_of_lt (tl j hj)
  · rintro i vals ⟨_, rfl⟩
    exact ⟨_, _, rfl⟩
  · refine ⟨⟨_, Heap.get?_push_size _ rfl, rfl, rfl⟩, ⟨_, _, up _ _ (N₁ _ (.head _)).1, rfl⟩, fun k hk' => ?_⟩
    rw [List.size_toArray] at hk'
    exact ⟨_, up _ _ (N₁ _ (.tail _ (.tail _ (hf k hk').2))).1, rfl, _, rfl⟩
  · intro b hb
    show b < (Heap.push _ _).objs.size
    rw [Heap.size_push]
    rcases List.mem_cons.mp hb with rfl | hb
    · exact Nat.lt_succ_self _
    rcases List.mem_cons.mp hb with rfl | hb
    · exact Nat.lt_succ_of_lt hxl
    obtain ⟨j, hj, rfl⟩ := List.mem_map.mp hb
    rw [List.mem_range, List.size_toArray] at hj
    exact Nat.lt_succ_of_lt (tl j hj)
  · intro hb
    rcases List.mem_cons.mp hb with e | hb
    · exact Nat.lt_irrefl _ (e ▸ hPl)
    rcases List.mem_cons.mp hb with e | hb
    · exact hPx e
    obtain ⟨j, hj, e⟩ := List.mem_map.mp hb
    rw [List.mem_range, List.size_toArray] at hj
    exact hPn _ (hf j hj).2 e
  · intro b hb
    rw [List.mem_singleton.mp hb]
    have := F₁.ns.lt
    exact Nat.sub_lt (Nat.lt_of_le_of_lt (Nat.zero_le _) this) Nat.one_pos
  · rintro code C A' E' i va vb t m₂ hA hD hU ⟨hi, hv⟩ Ft ha hb hLC
    injection hv with hv
    injection hv with h1 hv
    injection hv with h2 _
    subst h1 h2
    exact helt i (by rw [List.size_toArray] at hi; lia) code C A' E' t m₂ _ _ hA Ft ha hb
  · intro a s₅ ps' F₅ TI G₅ ho hd' hk₅ hgen
    refine h a s₅ ps' _ (Nat.le_sub_one_of_lt F₁.ns.lt) hal (Nat.le_sub_one_of_lt hPl) F₅ (fun q hq => ⟨hk₅ _ _ ?_ (up _ _ (N₁ q hq).1), (N₁ q hq).2⟩) TI G₅ ho hd' ?_
    · rcases List.mem_cons.mp hq with rfl | hq
      · exact Ne.symm hPx
      rcases List.mem_cons.mp hq with rfl | hq
      · exact Ne.symm hPd
      exact hPn q hq
    · rw [List.size_toArray] at hgen
      exact hgen
end
theorem TabIn.triples {h₀ h : Heap} {L c P : Addr} {ps : Array Value} (x : TabIn h₀ L c P h ps) : TriplesOk ps.toList := by
  obtain ⟨o, vs, file, tf, flags, tg, inF, text, tt, op, ho, hd, h11, h2, h7, h9, h10, hop, hpd, htr, hne⟩ := x.code
  rw [x.tab.2] at hop
  cases hop
  cases hpd
  exact htr
theorem gen_toks {prog : Program} {w : World} {A : Around} {K a : Addr} {n tk : Nat} {F : Nat → Value → Prop} {s : Shared} (X : Gen prog w A K a n F s) (h : s.toks ≤ tk) : Gen prog w A K a n F { s with toks := tk } := by
  obtain ⟨fp, wr, g, St, W, hst, h1, h2, h3, h4⟩ := X
  exact ⟨fp, wr, g, St, W, W.frame 0 s s.heap tk hst h fun _ _ _ e => e, h1, h2, h3, h4⟩
theorem news_cons {h₀ h : Heap} {L a : Addr} {o : Obj} {nw : List (Addr × Obj)} (N : News h₀ L h nw) (ho : h.get? a = some o) (hL : a ≠ L) (h0 : h₀.get? a = none) : News h₀ L h ((a, o) :: nw) := fun q hq => by
  rcases List.mem_cons.mp hq with rfl | hq
  · exact ⟨ho, hL, h0⟩
  · exact N q hq
theorem news_sub {h₀ h : Heap} {L : Addr} {nw nw' : List (Addr × Obj)} (N : News h₀ L h nw) (hs : ∀ p ∈ nw', p ∈ nw) : News h₀ L h nw' := fun q hq => N q (hs q hq)
end Mine
end
local macro_rules | `(tactic| k_inst) => `(tactic| (refine' acc_inst ?N ?h1 ?h2; (case N => k_asm); (case h1 => k_mem); (case h2 => k_mem)))
section
open PySem PySem.W PySem.Spec PySem.Calls PyProof.Rows Builtin Builtin.ObjectAttr
example : (fun (_ : OpenLaw) (_ : Params → Frag) => True) PySem.Challenge.rw_tc0044_01 Mine.hd.heap_39 := by k_fill; trivial
namespace Mine
section
variable {w : World} {pT : Program} {loose : List Str} {mean : ExcName → Option Value} {mg mb : Str → Option Value}
theorem len_call {x dx : Addr} {items : List Value} {ep : Nat} {hs : Int} {tk0 : Tok} {t0 : Tok} {n : Nat} {nw : List (Addr × Obj)} {ps : Array Value} {parts : List (Str × Str)}
    {dp un : Nat} {gd : Option (List Code)} {cn : Str} {cs : Scope} {a : Addr} {ccd : Value} {cl : List (Str × Addr)} {outer : List Env} {A₀ : Around} {base h₀ : Heap} {L : Addr} {m : Str → Option Value} {s : Shared} {Q E : Value → Shared → Prop}
    (B : Below A₀ base outer h₀) (F : Fr h₀ L s.heap m) (X : (Mine.hd.heap_39 w.params).In h₀) (T : Top pT loose mean mg mb h₀) (hk : cs.kind = .function)
    (hd1 : dp + 8 < recursionLimit) (G : AllBare s.gens) (hoff : ∀ p ∈ nw, @Ne Nat p.1 154) (hx : @Ne Nat x 154) (hdx : @Ne Nat dx 154)
    (N : News h₀ L s.heap ((x, accObj dx items ep) :: (dx, dictOf [⟨hs, .str (Str.ofString "_initial_size") tk0, .int 0 t0⟩] n) :: (154, tabObj ps) :: nw)) (ht : TriplesOk ps.toList)
    (PA : PartsAre nw items parts) (hsz : items.length ≤ 1000) (hlen : ∀ p ∈ parts, p.1.length ≤ 1000 ∧ p.2.length ≤ 1000)
    (hret : ∀ t' h' g' tk' ps', Fr h₀ L h' m → News h₀ L h' ((x, accObj dx items ep) :: (dx, dictOf [⟨hs, .str (Str.ofString "_initial_size") tk0, .int 0 t0⟩] n) :: (154, tabObj ps') :: nw) → TriplesOk ps'.toList → AllBare g' → Q (.int (sumLen parts) t') ⟨h', g', s.drawn, tk', s.os⟩) :
    wpAny (model PySem.Challenge.pw_tc0044_01 w) (ktrTop dp un gd cn cs L a ccd cl outer) (call (.ref 159) [.ref x]) Q E s := by
  refine wpAny_call ?_
  k_dflt cell_enter
  iterate 7 walk1
  (with_reducible rename Fr _ _ _ _ => F₁)
  (with_reducible rename News _ _ _ _ => N₁)
  (with_reducible rename Frag.In _ _ => X₁)
  (with_reducible rename Top _ _ _ _ _ _ => T₁)
  have D154 := (N₁ (154, tabObj ps) (.tail _ (.tail _ (.head _))))
  have CH := codeHd_len X₁
  dsimp only at D154
  refine genAcc (c := 158) (P := 154) (F := fun i y => ∃ u, y = .int (partLen (parts.getD i default)) u) F₁ X₁ T₁ (news_sub (nw' := (x, accObj dx items ep) :: (dx, dictOf [⟨hs, .str (Str.ofString "_initial_size") tk0, .int 0 t0⟩] n) :: nw) N₁ ?hsub) ⟨(CH.keeps F₁.keep).code D154.1 ht, (CH.keeps F₁.keep).tab D154.1, D154.2.2, D154.2.1⟩ PA (Ne.symm hx) hoff G rfl (by k_is) (by k_is) rfl rfl rfl (by decide) rfl rfl rfl rfl rfl rfl ?room ?_ ?_ (Ne.symm hdx) (fun _ => rfl)
  case room => ktr_room
  case hsub => intro q hq; simp only [List.mem_cons] at hq ⊢; rcases hq with h | h | h <;> simp [h]
  · intro i hi code C A' E' t m₂ ta tb hA Ft ha hb
    have hp := hlen (parts.getD i default) (by rw [List.getD_eq_getElem?_getD, List.getElem?_eq_getElem hi]; exact List.getElem_mem hi)
    exact elt_len X₁ (topRead_of T₁) Ft ha hb hp.1 hp.2
  · intro a₅ s₅ ps' K' hLK hKn hPK F₅ N₅ TI G₅ hos hdr hgen
    clear F₁ N₁ D154 F N
    iterate 5 (first | with_reducible ((with_reducible show wpAny _ _ (getAttr (Value.ref _) _ _) _ _ _); ((k_here; k_dflt (refine' get_A ?k1 ?k2 ?k3 ?k4 ?k5 ?k6 ?k7 ?k8 ?k9 ?k10 ?_; (case k1 => k_asm); (case k2 => k_asm); (case k3 => k_inst); (case k4 => k_is); (case k5 => k_is); (case k6 => k_is); (case k7 => k_is); (case k8 => k_is); (case k9 => k_get); (case k10 => k_handed); k_whole)))) | walk1)
    have hb := sumLen_bound hlen
    have hpl := PA.length
    refine sum0_rows (s := ⟨s₅.heap, s₅.gens, s₅.drawn, s₅.toks + 1, s₅.os⟩) F₅ G₅ (gen_toks hgen (Nat.le_succ _)) hLK (fun j => partLen (parts.getD j default)) ?hval ?hfit ?_
    case hval =>
      rintro j v ⟨i, hi, u, rfl⟩
      have : i = j := by
        rw [List.getElem?_range] at hi
        · exact (Option.some.inj hi).symm
        · by_cases hj : j < items.length
          · exact hj
          · rw [List.getElem?_eq_none (by rw [List.length_range]; lia)] at hi; cases hi
      subst this
      exact ⟨u, rfl⟩
    case hfit =>
      intro j hj
      rw [preSum_sumLen parts (j + 1) (by lia)]
      have h1 := sumLen_bound (ps := parts.take (j + 1)) (B := 1000) fun p hp => hlen p (List.mem_of_mem_take hp)
      have h2 := hlen (parts.getD j default) (by rw [List.getD_eq_getElem?_getD, List.getElem?_eq_getElem (by lia)]; exact List.getElem_mem _)
      have h3 : (parts.take (j + 1)).length ≤ 1000 := by rw [List.length_take]; lia
      unfold InLong partLen
      constructor <;> constructor <;> lia
    intro s' t' F₆ G₆ ho6 hd6 hk6
    have N₆ := news_cons (a := 154) (o := tabObj ps') (news_sub (L := _) (fun q hq => ⟨hk6 _ _ (hKn q hq) (N₅ q hq).1, (N₅ q hq).2⟩ : News _ _ s'.heap _) (fun q hq => hq)) (hk6 _ _ hPK TI.tab.2) TI.ne TI.off
    rw [preSum_sumLen parts _ (Nat.le_of_eq hpl), hpl, List.take_length]
    obtain ⟨h6, g6, d6, t6, o6⟩ := s'
    have ho7 : o6 = s.os := ho6.trans hos
    have hd7 : d6 = s.drawn := hd6.trans hdr
    subst ho7 hd7
    clear F₅ N₅ hgen
    have htr := TI.triples
    (repeat' (first | (k_unfold; (try dsimp only)) | (k_end; wrow_close) | walk1 | dsimp only | (leave1; try dsimp only)))
    (with_reducible rename Fr _ _ _ _ => F₈)
    (with_reducible rename News _ _ _ _ => N₈)
    exact hret _ _ _ _ _ F₈ (news_sub N₈ (by intro q hq; simp only [List.mem_cons] at hq ⊢; rcases hq with h | h | h | h <;> simp [h])) htr G₆
end
end Mine
end
example : True ∧ True := by first | (w_top off; walk1; done) | exact ⟨trivial, trivial⟩
section
open PySem PySem.W PySem.Spec PySem.Calls PyProof.Rows Builtin Builtin.ObjectAttr
example : (fun (_ : OpenLaw) (_ : Params → Frag) => True) PySem.Challenge.rw_tc0044_01 Mine.hd.heap_39 := by k_fill; trivial
namespace Mine
section
variable {prog : Program} {w : World} {pT : Program} {A : Around} {E : Value → Shared → Prop} {s : Shared} {h₀ : Heap} {L K a : Addr} {m : Str → Option Value} {n : Nat} {F : Nat → Value → Prop}
theorem join_rowsK {sep : Str} {t : Tok} {Q : Value → Shared → Prop} (Fh : Fr h₀ L s.heap m) (G : AllBare s.gens) (X : Gen prog w A K a n F s) (hLK : L ≤ K) (tx : Nat → Str) (htx : ∀ j v, F j v → ∃ u, v = .str (tx j) u)
    (hok : JoinOk sep ((List.range n).map tx) = true)
    (hQ : ∀ s' t', Fr h₀ L s'.heap m → AllBare s'.gens → s'.os = s.os → s'.drawn = s.drawn → (∀ b o, b ≤ K → s.heap.get? b = some o → s'.heap.get? b = some o) → Q (.str (Txt.join sep ((List.range n).map tx)) t') s')
    (hsz : n ≤ sizeLine) : wpAny (model prog w) A (call (.builtin "str.join") [.str sep t, .ref a]) Q E s := by
  obtain ⟨fp, wr, g, St, W, hst, hT, ha, hfp, hwr⟩ := X
  have W := W.in4_2
  refine SC.joinGen W hT hst hfp ha (fun j v hv => let ⟨u, e⟩ := htx j v hv; ⟨_, u, e⟩) (fun s' lt hm hacc => ?_) hsz
  have hl : lt.map (·.1) = (List.range n).map tx := by
    apply List.ext_getElem?
    intro j
    have hsz : lt.length = n := by simpa [strValues] using hacc.1
    by_cases hj : j < n
    · have hj' : j < lt.length := hsz ▸ hj
      obtain ⟨u, hv⟩ := htx j _ (hacc.2 j (.str lt[j].1 lt[j].2) (by simp [strValues, List.getElem?_eq_getElem hj']))
      injection hv with h1 _
      simp [List.getElem?_eq_getElem hj', hj, h1]
    · rw [List.getElem?_eq_none (by simpa [hsz] using Nat.le_of_not_lt hj), List.getElem?_eq_none (by simpa using Nat.le_of_not_lt hj)]
  rw [hl]
  have f1 := Fh.moved hm fun b hb => Nat.lt_of_le_of_lt hLK (hwr b hb)
  have g1 := G.movedS hm
  exact ⟨hok, fun t' k => hQ { s' with toks := k } t' f1 g1 hm.os hm.drawn fun b o hb e => hm.heap b o (fun hmem => Nat.lt_irrefl _ (Nat.lt_of_lt_of_le (hwr b hmem) hb)) e⟩
end
theorem range_getD {α β : Type} [Inhabited α] (f : α → β) (l : List α) : (List.range l.length).map (fun j => f (l.getD j default)) = l.map f := by
  apply List.ext_getElem?
  intro j
  by_cases hj : j < l.length
  · simp [hj]
  · simp [hj]
noncomputable def partStr (p : Str × Str) : Str := p.1 ++ p.2
theorem parts_ok {ps : List (Str × Str)} (h : ∀ p ∈ ps, p.1.length ≤ 1000 ∧ p.2.length ≤ 1000) : ((ps.map partStr).map (·.length)).sum ≤ 2000 * ps.length := by
  induction ps with
  | nil => simp
  | cons p r ih =>
    have h1 := h p (.head _)
    have h2 := ih fun q hq => h q (.tail _ hq)
    simp only [List.map_cons, List.sum_cons, List.length_cons]
    have : (partStr p).length = p.1.length + p.2.length := by unfold partStr; exact Str.length_append _ _
    lia
section
variable {w : World} {pT : Program} {loose : List Str} {mean : ExcName → Option Value} {mg mb : Str → Option Value}
theorem str_call {x dx : Addr} {items : List Value} {ep : Nat} {hs : Int} {tk0 : Tok} {sz : Int} {t0 : Tok} {n : Nat} {nw : List (Addr × Obj)} {ps : Array Value} {parts : List (Str × Str)}
    {dp un : Nat} {gd : Option (List Code)} {cn : Str} {cs : Scope} {a : Addr} {ccd : Value} {cl : List (Str × Addr)} {outer : List Env} {A₀ : Around} {base h₀ : Heap} {L : Addr} {m : Str → Option Value} {s : Shared} {Q E : Value → Shared → Prop}
    (B : Below A₀ base outer h₀) (F : Fr h₀ L s.heap m) (X : (Mine.hd.heap_39 w.params).In h₀) (T : Top pT loose mean mg mb h₀) (hk : cs.kind = .function)
    (hd1 : dp + 8 < recursionLimit) (G : AllBare s.gens) (hoff : ∀ p ∈ nw, @Ne Nat p.1 161) (hx : @Ne Nat x 161) (hdx : @Ne Nat dx 161)
    (N : News h₀ L s.heap ((x, accObj dx items ep) :: (dx, dictOf [⟨hs, .str (Str.ofString "_initial_size") tk0, .int sz t0⟩] n) :: (161, tabObj ps) :: nw)) (ht : TriplesOk ps.toList)
    (PA : PartsAre nw items parts) (hsz : items.length ≤ 1000) (hlen : ∀ p ∈ parts, p.1.length ≤ 1000 ∧ p.2.length ≤ 1000)
    (hret : ∀ t' h' g' tk' ps', Fr h₀ L h' m → News h₀ L h' ((x, accObj dx items ep) :: (dx, dictOf [⟨hs, .str (Str.ofString "_initial_size") tk0, .int sz t0⟩] n) :: (161, tabObj ps') :: nw) → TriplesOk ps'.toList → AllBare g' → Q (.str (Txt.join (Str.ofString "") (parts.map partStr)) t') ⟨h', g', s.drawn, tk', s.os⟩) :
    wpAny (model PySem.Challenge.pw_tc0044_01 w) (ktrTop dp un gd cn cs L a ccd cl outer) (call (.ref 166) [.ref x]) Q E s := by
  refine wpAny_call ?_
  k_dflt cell_enter
  iterate 8 walk1
  (with_reducible rename Fr _ _ _ _ => F₁)
  (with_reducible rename News _ _ _ _ => N₁)
  (with_reducible rename Frag.In _ _ => X₁)
  (with_reducible rename Top _ _ _ _ _ _ => T₁)
  have D154 := (N₁ (161, tabObj ps) (.tail _ (.tail _ (.head _))))
  have CH := codeHd_str X₁
  dsimp only at D154
  refine genAcc (c := 165) (P := 161) (F := fun i y => ∃ u, y = .str (partStr (parts.getD i default)) u) F₁ X₁ T₁ (news_sub (nw' := (x, accObj dx items ep) :: (dx, dictOf [⟨hs, .str (Str.ofString "_initial_size") tk0, .int sz t0⟩] n) :: nw) N₁ ?hsub) ⟨(CH.keeps F₁.keep).code D154.1 ht, (CH.keeps F₁.keep).tab D154.1, D154.2.2, D154.2.1⟩ PA (Ne.symm hx) hoff G rfl (by k_is) (by k_is) rfl rfl rfl (by decide) rfl rfl rfl rfl rfl rfl ?room ?_ ?_ (Ne.symm hdx) (fun _ => rfl)
  case room => ktr_room
  case hsub => intro q hq; simp only [List.mem_cons] at hq ⊢; rcases hq with h | h | h <;> simp [h]
  · intro i hi code C A' E' t m₂ ta tb hA Ft ha hb
    have hp := hlen (parts.getD i default) (by rw [List.getD_eq_getElem?_getD, List.getElem?_eq_getElem hi]; exact List.getElem_mem hi)
    exact elt_str X₁ (topRead_of T₁) Ft ha hb hp.1 hp.2
  · intro a₅ s₅ ps' K' hLK hKn hPK F₅ N₅ TI G₅ hos hdr hgen
    clear F₁ N₁ D154 F N
    iterate 1 walk1
    have hpl := PA.length
    have e1 : (List.range items.length).map (fun j => partStr (parts.getD j default)) = parts.map partStr := by rw [hpl]; exact range_getD partStr parts
    refine join_rowsK F₅ G₅ hgen hLK (fun j => partStr (parts.getD j default)) ?hval ?hok ?_ (by rw [sizeLine_eq]; lia)
    case hval =>
      rintro j v ⟨i, hi, u, rfl⟩
      have : i = j := by
        rw [List.getElem?_range] at hi
        · exact (Option.some.inj hi).symm
        · by_cases hj : j < items.length
          · exact hj
          · rw [List.getElem?_eq_none (by rw [List.length_range]; lia)] at hi; cases hi
      subst this
      exact ⟨u, rfl⟩
    case hok =>
      rw [e1]
      refine joinOk_of ?_
      have h1 := parts_ok hlen
      have h2 : (Str.ofString "").length = 0 := by decide +kernel
      rw [h2, Nat.mul_zero, Nat.add_zero]
      lia
    intro s' t' F₆ G₆ ho6 hd6 hk6
    rw [e1]
    have N₆ := news_cons (a := 161) (o := tabObj ps') (news_sub (L := _) (fun q hq => ⟨hk6 _ _ (hKn q hq) (N₅ q hq).1, (N₅ q hq).2⟩ : News _ _ s'.heap _) (fun q hq => hq)) (hk6 _ _ hPK TI.tab.2) TI.ne TI.off
    obtain ⟨h6, g6, d6, t6, o6⟩ := s'
    have ho7 : o6 = s.os := ho6.trans hos
    have hd7 : d6 = s.drawn := hd6.trans hdr
    subst ho7 hd7
    clear F₅ N₅ hgen
    have htr := TI.triples
    k_steps
    (with_reducible rename Fr _ _ _ _ => F₈)
    (with_reducible rename News _ _ _ _ => N₈)
    exact hret _ _ _ _ _ F₈ (news_sub N₈ (by intro q hq; simp only [List.mem_cons] at hq ⊢; rcases hq with h | h | h | h <;> simp [h])) htr G₆
end
end Mine
end
example : True ∧ True := by first | (w_top off; walk1; done) | exact ⟨trivial, trivial⟩
section
open PySem PySem.W PySem.Spec PySem.Calls PyProof.Rows Builtin Builtin.ObjectAttr
namespace Mine
namespace SF
theorem slot_wd : Slot "wrapper_descriptor" "__get__" "wrapper_descriptor.__get__" :=
  .of (owner := "wrapper_descriptor") (n := "__get__") (by rw [typeLookup_type, builtinLookup_eq_fast]; kernel_rfl) (by decide +kernel) (by decide +kernel) (by decide +kernel)
    (by first | exact .inl (by decide +kernel) | exact .inr (by decide +kernel)) (by rw [isSubtype_type]; kernel_rfl)
theorem entry_wd : entryFor table "wrapper_descriptor.__get__" = some Builtin.«wrapper_descriptor.__get__» := entryFor_of_tree (by kernel_rfl)
theorem args_wd (a b c : Value) : argsOk "wrapper_descriptor.__get__" ⟨[a, b, c], []⟩ := by unfold argsOk; kernel_rfl
theorem slot_md : Slot "method_descriptor" "__get__" "method_descriptor.__get__" :=
  .of (owner := "method_descriptor") (n := "__get__") (by rw [typeLookup_type, builtinLookup_eq_fast]; kernel_rfl) (by decide +kernel) (by decide +kernel) (by decide +kernel)
    (by first | exact .inl (by decide +kernel) | exact .inr (by decide +kernel)) (by rw [isSubtype_type]; kernel_rfl)
theorem entry_md : entryFor table "method_descriptor.__get__" = some Builtin.«method_descriptor.__get__» := entryFor_of_tree (by kernel_rfl)
theorem args_md (a b c : Value) : argsOk "method_descriptor.__get__" ⟨[a, b, c], []⟩ := by unfold argsOk; kernel_rfl
theorem type_len : typeOf (.builtin "list.__len__") = pure (.type "wrapper_descriptor") := by show builtinType _ = _; rw [builtinType_eq_fast]; kernel_rfl
theorem type_pop : typeOf (.builtin "list.pop") = pure (.type "method_descriptor") := by show builtinType _ = _; rw [builtinType_eq_fast]; kernel_rfl
end SF
section
variable {prog : Program} {w : World} {pT : Program} {M : Model} {A : Around} {E : Value → Shared → Prop} {h : Heap} {g : Array GenState} {d : Drawn} {t : Nat} {os : OsState}
theorem owner_len : (".".intercalate ("list.__len__".cutAt '.').dropLast) = "list" := by decide +kernel
theorem owner_pop : (".".intercalate ("list.pop".cutAt '.').dropLast) = "list" := by decide +kernel
theorem told_pop : Manifest.toldItsClass.contains "list.pop" = false := by decide +kernel
theorem get_len {x C : Addr} {Q : Value → Shared → Prop} (hi : Looks (model prog w) h (isInstance (.ref x) (.type "list")) true)
    (hq : Q (.ref h.objs.size) ⟨h.push { cls := .type "method-wrapper", data := .fields #[.builtin "list.__len__", .ref x] }, g, d, t, os⟩) :
    wpAny (model prog w) A (call (.builtin "wrapper_descriptor.__get__") [.builtin "list.__len__", .ref x, .ref C]) Q E ⟨h, g, d, t, os⟩ := by
  have hiI : Looks (model prog w) h (isInstance (.ref x) (.type (".".intercalate ("list.__len__".cutAt '.').dropLast))) true := by rw [owner_len]; exact hi
  refine wpAny_call_entry SF.slot_wd SF.type_len SF.entry_wd ?_ (SF.args_wd _ _ _)
  unfold Builtin.«wrapper_descriptor.__get__»
  repeat (first | (with_reducible refine Looks.at hiI ?_) | lk | wp_step)
  exact ⟨_, rfl, hq⟩
theorem get_pop {x C : Addr} {Q : Value → Shared → Prop} (hi : Looks (model prog w) h (isInstance (.ref x) (.type "list")) true)
    (hq : Q (.ref h.objs.size) ⟨h.push { cls := .type "builtin_function_or_method", data := .fields #[.builtin "list.pop", .ref x] }, g, d, t, os⟩) :
    wpAny (model prog w) A (call (.builtin "method_descriptor.__get__") [.builtin "list.pop", .ref x, .ref C]) Q E ⟨h, g, d, t, os⟩ := by
  have hiI : Looks (model prog w) h (isInstance (.ref x) (.type (".".intercalate ("list.pop".cutAt '.').dropLast))) true := by rw [owner_pop]; exact hi
  refine wpAny_call_entry SF.slot_md SF.type_pop SF.entry_md ?_ (SF.args_md _ _ _)
  unfold Builtin.«method_descriptor.__get__»
  repeat (first | (with_reducible refine Looks.at hiI ?_) | lk | (rw [told_pop]) | wp_step)
  exact ⟨_, rfl, hq⟩
theorem super_bi {so D x C : Addr} {l₀ l : List Value} {K : Frag} {name : Str} {id dt gid : String} {pl : Sem Bool} {q : Addr} {h' : Heap} {Q : Value × List Value → Shared → Prop}
    (hso : h.get? so = some { cls := .type "super", dict := none, data := .fields #[.ref D, .ref x, .ref C], slots := #[] }) (hno : Looks (model prog w) h (opaqueClassAbove (.ref C)) none)
    (hC : Looks (model prog w) h (mroOf (.ref C)) l₀) (hl : (l₀.dropWhile (· != .ref D)).drop 1 = l) (X : K.In h)
    (hf : alongIn K name l = some (some (.builtin id))) (hT : typeOf (.builtin id) = pure (.type dt)) (hlk : typeLookup (.type dt) "__get__" = pure (some (.builtin gid))) (hxC : x ≠ C) (hn : (name == ("__class__" : Str)) = false)
    (hcall : ∀ {A : Around} {E : Value → Shared → Prop} {Q : Value → Shared → Prop} {t : Nat}, Q (.ref q) ⟨h', g, d, t, os⟩ → wpAny (model prog w) A (call (.builtin gid) [.builtin id, .ref x, .ref C]) Q E ⟨h, g, d, t, os⟩)
    (hq : Q (.ref q, []) ⟨h', g, d, t + 1, os⟩) :
    wpAny (model prog w) A (getMethod (.ref so) name pl) Q E ⟨h, g, d, t, os⟩ := by
  have hlk0 := PySem.F.ks_slot_super_ga.lookup
  have hcan := PySem.F.ks_canon_super_ga
  have hne : (Value.ref x == Value.ref C) = false := by simp [hxC]
  have hdt : ({ cls := .type "super", dict := none, data := .fields #[.ref D, .ref x, .ref C], slots := #[] } : Obj).data = .fields #[.ref D, .ref x, .ref C] := rfl
  have f0 : (#[.ref D, .ref x, .ref C] : Array Value)[0]? = some (.ref D) := rfl
  have f1 : (#[.ref D, .ref x, .ref C] : Array Value)[1]? = some (.ref x) := rfl
  have f2 : (#[.ref D, .ref x, .ref C] : Array Value)[2]? = some (.ref C) := rfl
  have hT' : ∀ t', (⟨h, g, d, t', os⟩ : Shared).TypeIs (.ref so) "super" := fun _ => ⟨_, hso, rfl⟩
  unfold getMethod
  refine wpAny_bind (wpAny_specialOf (hT' _) hlk0 ?_)
  show wpAny _ _ (if (Manifest.canonical "super.__getattribute__" != "object.__getattribute__") = true then _ else _) _ _ _
  rw [if_pos hcan]
  unfold getAttr getAttrBy
  refine wpAny_bind (wpAny_bind (wpAny_mkText (wpAny_holding (wpAny_bind (wpAny_typeOf (hT' _) (wpAny_bind (wpAny_of_eq hlk0 ?_)))))))
  show wpAny _ _ (getAttrByItsOwn (.ref so) (.str name t) (.type "super") (.builtin "super.__getattribute__") true false) _ _ _
  unfold getAttrByItsOwn hookBefore callGetattribute boundAndCalled
  refine wpAny_bind (wpAny_of_eq (show (if onTheHeap (.type "super") then typeLookup (.type "super") "__getattr__" else pure none) = pure none from rfl) ?_)
  refine wpAny_bind (wpAny_attempt (wpAny_holding ?_))
  show wpAny _ _ (bindSpecial (.builtin "super.__getattribute__") (.ref so) >>= _) _ _ _
  refine wpAny_bind (wpAny_of_eq (PySem.F.ks_slot_super_ga.bind _) ?_)
  refine wpAny_mono (Q := fun v s' => v = .ref q ∧ s' = ⟨h', g, d, t + 1, os⟩) (E := fun _ _ => False)
    (wpAny_call_entry PySem.F.ks_slot_super_ga (hT' _) PySem.F.ks_entry_super_ga ?_ (PySem.F.ks_gaArgs_super _ _)) (fun v s' hv => ?_) fun _ _ z => z.elim
  · have LT : Looks (model prog w) h (typeOf (.builtin id)) (.type dt) := Looks.of_pure hT
    have LK : Looks (model prog w) h (typeLookup (.type dt) "__get__") (some (.builtin gid)) := Looks.of_pure hlk
    clear hT hlk hlk0 hcan hT' hq
    unfold Builtin.«super.__getattribute__»
    repeat (first
      | (with_reducible refine wpAny_field hso hdt f0 ?_) | (with_reducible refine wpAny_field hso hdt f1 ?_) | (with_reducible refine wpAny_field hso hdt f2 ?_)
      | (with_reducible refine ks_wpAny_notOpaque hno ?_)
      | (with_reducible refine Looks.at hC ?_; rw [hl])
      | (with_reducible refine Looks.at LT ?_)
      | (with_reducible refine Looks.at LK ?_)
      | (with_reducible refine hcall ?_)
      | (with_reducible refine ⟨_, rfl, ?_⟩)
      | (simp only [hn, hne, Bool.or_false, Bool.false_eq_true, if_false])
      | wp_step
      | (refine ks_forIn_along X (fun _ _ => rfl) rfl ?_ hf)
      | dsimp only)
    all_goals exact ⟨by first | rfl | trivial, by first | rfl | trivial⟩
  · obtain ⟨rfl, rfl⟩ := hv
    exact wpAny_pure (wpAny_pure hq)
end
end Mine
end
example : True ∧ True := by first | (w_top off; walk1; done) | exact ⟨trivial, trivial⟩
section
open PySem PySem.W PySem.Spec PySem.Calls PyProof.Rows Builtin Builtin.ObjectAttr
example : (fun (_ : OpenLaw) (_ : Params → Frag) => True) PySem.Challenge.rw_tc0044_01 Mine.hd.heap_39 := by k_fill; trivial
namespace Mine
noncomputable abbrev wrapObj (T id : String) (x : Addr) : Obj := { cls := .type T, data := .fields #[.builtin id, .ref x] }
section
variable {prog : Program} {w : World} {pT : Program} {A : Around} {E : Value → Shared → Prop} {s : Shared} {K : Frag} {x dx L so q : Addr} {h₀ : Heap} {m : Str → Option Value} {items : List Value} {ep : Nat} {od : Obj} {news news' : List (Addr × Obj)} {v : Value}
theorem super_len {pl : Sem Bool} {Q : Value × List Value → Shared → Prop} (F : Fr h₀ L s.heap m) (X₀ : K.In h₀) (N : News h₀ L s.heap news) (hso : (so, ks_superObj 192 x 192) ∈ news) (I : InstAt s.heap x (accObj dx items ep) 192 (some od)) (ho : nsIn K cStatics "thirdparty.any" = some none)
    (hm : ks_superIn K 192 192 (Str.ofString "__len__") = some (some (.builtin "list.__len__"))) (hsub : subIn K (.ref 192) (.type "list") = some true)
    (h : ∀ q h', Fr h₀ L h' m → News h₀ L h' ((q, wrapObj "method-wrapper" "list.__len__" x) :: news) → (∀ p ∈ news, p.1 < q) → Q (.ref q, []) { s with heap := h', toks := s.toks + 1 }) :
    wpAny (model prog w) A (getMethod (.ref so) (Str.ofString "__len__") pl) Q E s := by
  have X : K.In s.heap := X₀.keeps F.keep
  obtain ⟨hh, g, d, t, os⟩ := s
  have hi := isSub (M := model prog w) X I hsub
  unfold ks_superIn at hm
  obtain ⟨cd, hc, hm⟩ := Option.bind_eq_some_iff.mp hm
  have N2 := N.push F (wrapObj "method-wrapper" "list.__len__" x)
  refine super_bi (q := hh.objs.size) (h' := hh.push (wrapObj "method-wrapper" "list.__len__" x)) (N _ hso).1 (looks_opaque X ho) (l₀ := cd.mro) ?_ rfl X hm SF.type_len SF.slot_wd.lookup (ks_ne X I hc) (by decide) (fun hq => get_len hi hq) ?_
  · exact fun A Q E s k q => wpAny_bind ((looks_clsIn X hc) A _ E s k (wpAny_pure q))
  · exact h _ _ (F.push _) N2 (fun p hp => Heap.lt_size (N p hp).1)
theorem super_pop {pl : Sem Bool} {Q : Value × List Value → Shared → Prop} (F : Fr h₀ L s.heap m) (X₀ : K.In h₀) (N : News h₀ L s.heap news) (hso : (so, ks_superObj 192 x 192) ∈ news) (I : InstAt s.heap x (accObj dx items ep) 192 (some od)) (ho : nsIn K cStatics "thirdparty.any" = some none)
    (hm : ks_superIn K 192 192 (Str.ofString "pop") = some (some (.builtin "list.pop"))) (hsub : subIn K (.ref 192) (.type "list") = some true)
    (h : ∀ q h', Fr h₀ L h' m → News h₀ L h' ((q, wrapObj "builtin_function_or_method" "list.pop" x) :: news) → (∀ p ∈ news, p.1 < q) → Q (.ref q, []) { s with heap := h', toks := s.toks + 1 }) :
    wpAny (model prog w) A (getMethod (.ref so) (Str.ofString "pop") pl) Q E s := by
  have X : K.In s.heap := X₀.keeps F.keep
  obtain ⟨hh, g, d, t, os⟩ := s
  have hi := isSub (M := model prog w) X I hsub
  unfold ks_superIn at hm
  obtain ⟨cd, hc, hm⟩ := Option.bind_eq_some_iff.mp hm
  have N2 := N.push F (wrapObj "builtin_function_or_method" "list.pop" x)
  refine super_bi (q := hh.objs.size) (h' := hh.push (wrapObj "builtin_function_or_method" "list.pop" x)) (N _ hso).1 (looks_opaque X ho) (l₀ := cd.mro) ?_ rfl X hm SF.type_pop SF.slot_md.lookup (ks_ne X I hc) (by decide) (fun hq => get_pop hi hq) ?_
  · exact fun A Q E s k q => wpAny_bind ((looks_clsIn X hc) A _ E s k (wpAny_pure q))
  · exact h _ _ (F.push _) N2 (fun p hp => Heap.lt_size (N p hp).1)
theorem pop_sig (a : Value) : (match Manifest.signature? "list.pop" with | some sig => Bind.checkArgs "list.pop" { sig with full := toString "_Accumulator" ++ toString "." ++ toString (Bind.lastOf "list.pop") } ⟨[a], []⟩ | none => unsupported "no") = pure () := by
  rw [signature?_of (id := "list.pop") (n := ['p', 'o', 'p']) (o := ['t', 's', 'i', 'l']) (by kernel_rfl) PySem.F.owner_list]; kernel_rfl
theorem kind_pop : builtinKind "list.pop" = some .method := by decide +kernel
theorem varargs_pop : Manifest.varargsMethods.contains "list.pop" = false := by decide +kernel
noncomputable def WrapAt (q : Addr) (T id : String) (x : Addr) (h : Heap) : Prop := h.get? q = some (wrapObj T id x)
theorem keeps_W {M : Model} {T id : String} (hT : T = "method-wrapper" ∨ T = "builtin_function_or_method") (h : Heap) (X : WrapAt q T id x h) : ∃ k, (k = Keeper.frame ∨ k = Keeper.machine ∨ k = Keeper.boundFrame) ∧ Looks M h (keeperOf (.ref q)) k := by
  refine ⟨.machine, .inr (.inl rfl), (Looks.ld (part := none) X).andThen ?_⟩
  rcases hT with rfl | rfl <;> exact .now
theorem callWith_W {M : Model} {env : Env} {pos : Pos} {T id : String} {Q : Value → Shared → Prop} (hT : T = "method-wrapper" ∨ T = "builtin_function_or_method") (X : WrapAt q T id x s.heap) (h : wpAny M A (call (.ref q) []) Q E s) : wpAny M A (callWith pos (.ref q) [] (backTo pos (starEach [] env)) []) Q E s :=
  callWith_of rfl (keeps_W hT) (evalArgs_nil3 ⟨X, h⟩)
theorem call_W_len {Q : Value → Shared → Prop} (N : News h₀ L s.heap news) (hq : (q, wrapObj "method-wrapper" "list.__len__" x) ∈ news) (hx : (x, accObj dx items ep) ∈ news)
    (h : Q (.int items.length s.toks) { s with toks := s.toks + 1 }) : wpAny (model prog w) A (call (.ref q) []) Q E s := by
  refine wpAny_call (codeAny_of_tree ?_)
  show wpAny _ A.in1 (callAny (.ref q) ⟨[], []⟩) _ _ _
  unfold callAny
  refine wpAny_bind (wpAny_load (N _ hq).1 ?_)
  dsimp only
  rw [if_pos (by decide)]
  have hck : checkBoundCall "list.__len__" ⟨[.ref x], []⟩ = pure () := by
    unfold checkBoundCall
    kernel_rfl
  show wpAny _ _ (checkBoundCall "list.__len__" ⟨[.ref x], []⟩ >>= fun _ => again (.builtin "list.__len__" ⟨[.ref x], []⟩)) _ _ _
  rw [hck]
  refine wpAny_bind (wpAny_pure (wpAny_pure ⟨Code.quiet_builtin _ (by decide +kernel), ?_⟩))
  refine codeAny_builtin entry_list_len ?_
  show wpAny _ _ (seqSize x >>= fun n => retInt n) _ _ s
  unfold seqSize
  refine wpAny_bind (wpAny_bind (wpAny_loadPart (N _ hx).1 (wpAny_pure ?_)))
  rw [List.size_toArray]
  exact wpAny_bind (wpAny_bind (wpAny_fresh (wpAny_pure (wpAny_pure h))))
theorem pop_body {Qf : Fin → Shared → Prop} (F : Fr h₀ L s.heap m) (N : News h₀ L s.heap news) (U : Upd x (accObj dx (items ++ [v]) ep) (accObj dx items (ep + 1)) news news') (hsz : items.length ≤ 1000)
    (h : ∀ h', Fr h₀ L h' m → News h₀ L h' news' → Qf (.done (.ret v)) { s with heap := h' }) : wpAny (model prog w) A (Builtin.«list.pop» ⟨[.ref x], []⟩) Qf E s := by
  show wpAny _ _ (Builtin.List.listItems (.ref x) >>= _) _ _ s
  have ho := (N _ (upd_mem U)).1
  unfold Builtin.List.listItems
  refine wpAny_bind (wpAny_bind (wpAny_seqItems ho rfl (wpAny_pure ?_)))
  dsimp only
  rw [if_neg (by simp)]
  have e : (seqIndex? (-1) (items ++ [v]).toArray.size).bind (fun k => (items ++ [v]).toArray[k]?.map (k, ·)) = some (items.length, v) := by
    have q : seqIndex? (-1) (items ++ [v]).toArray.size = some items.length := by
      rw [List.size_toArray, List.length_append, List.length_singleton]
      unfold seqIndex?
      simp
      try lia
    rw [q]
    simp
  show wpAny _ _ (match (seqIndex? (-1) (items ++ [v]).toArray.size).bind (fun k => (items ++ [v]).toArray[k]?.map (k, ·)) with
    | some (k, x') => (Builtin.List.listUpdate (.ref x) (·.eraseIdxIfInBounds k) >>= fun _ => ret x')
    | none => _) _ _ s
  rw [e]
  refine wpAny_bind ?_
  show wpAny _ _ (updateSeq x (·.eraseIdxIfInBounds items.length)) _ _ s
  refine wpAny_updateSeq (xs := (items ++ [v]).toArray) (n := ep) ho rfl (wpAny_pure ?_) (by rw [List.size_toArray, List.length_append, List.length_singleton, sizeLine_eq]; lia) (by have e9 : ((items ++ [v]).toArray.eraseIdxIfInBounds items.length) = items.toArray := (by simp [List.eraseIdx_append_of_length_le]); rw [e9, List.size_toArray, sizeLine_eq]; lia)
  obtain ⟨pre, post, rfl, rfl, p1, p2⟩ := U.split
  obtain ⟨F', N'⟩ := news_upd F N p1 p2 (mapSeq_erase dx items ep v) rfl
  exact h _ F' N'
theorem call_W_pop {cd : ClassData} {Q : Value → Shared → Prop} (F : Fr h₀ L s.heap m) (X₀ : K.In h₀) (N : News h₀ L s.heap news) (hq : (q, wrapObj "builtin_function_or_method" "list.pop" x) ∈ news) (U : Upd x (accObj dx (items ++ [v]) ep) (accObj dx items (ep + 1)) news news') (hd : (dx, od) ∈ news)
    (hsub : subIn K (.ref 192) (.type "list") = some true) (hmod : subIn K (.ref 192) (.type "module") = some false) (hc : clsIn K 192 = some cd) (hqn : cd.qualname.toString = "_Accumulator") (hty : typeIn K (.ref 192) = some (.type "type")) (hsz : items.length ≤ 1000)
    (h : ∀ h', Fr h₀ L h' m → News h₀ L h' news' → Q v { s with heap := h' }) : wpAny (model prog w) A (call (.ref q) []) Q E s := by
  have I := acc_inst N (upd_mem U) hd
  have X := X₀.keeps F.keep
  refine wpAny_call (codeAny_of_tree ?_)
  show wpAny _ A.in1 (callAny (.ref q) ⟨[], []⟩) _ _ _
  unfold callAny
  refine wpAny_bind (wpAny_load (N _ hq).1 ?_)
  dsimp only
  rw [if_pos (by decide)]
  show wpAny _ _ (checkBoundCall "list.pop" ⟨[.ref x], []⟩ >>= fun _ => again (.builtin "list.pop" ⟨[.ref x], []⟩)) _ _ _
  refine wpAny_bind ?_
  unfold checkBoundCall
  have hP := pop_sig (.ref x)
  cases hsig : Manifest.signature? "list.pop" with
  | none => rw [hsig] at hP; exact nomatch hP
  | some sig =>
    rw [hsig] at hP
    dsimp only at hP ⊢
    rw [kind_pop]
    dsimp only
    rw [if_neg (by decide)]
    refine wpAny_bind ((isSub X I hmod).here ?_)
    rw [varargs_pop, if_neg (by decide)]
    have hto : Looks (model prog w) s.heap (typeOf (.ref x)) (.ref 192) := I.type
    have hty' : Looks (model prog w) s.heap (typeOf (.ref 192)) (.type "type") := looks_typeIn X hty
    have hcd : Looks (model prog w) s.heap (classData 192) cd := looks_clsIn X hc
    have his : Looks (model prog w) s.heap (isType (.ref x)) false := (Looks.ld (part := some headPart) (N _ (upd_mem U)).1).andThen .now
    refine wpAny_bind (his.here ?_)
    rw [if_neg (by decide)]
    refine wpAny_bind (hto.here ?_)
    refine wpAny_bind (hcd.here ?_)
    refine wpAny_bind (hty'.here ?_)
    rw [if_pos (by decide), hqn, hP]
    refine wpAny_pure (wpAny_pure ⟨Code.quiet_builtin _ (by decide +kernel), ?_⟩)
    refine codeAny_builtin PySem.F.entry_list_pop (pop_body F N U hsz fun h' F' N' => h h' F' N')
end
end Mine
end
example : True ∧ True := by first | (w_top off; walk1; done) | exact ⟨trivial, trivial⟩
section
open PySem PySem.W PySem.Spec PySem.Calls PyProof.Rows Builtin Builtin.ObjectAttr
example : (fun (_ : OpenLaw) (_ : Params → Frag) => True) PySem.Challenge.rw_tc0044_01 Mine.hd.heap_39 := by k_fill; trivial
namespace Mine
theorem callWith_W' {prog : Program} {w : World} {A : Around} {E : Value → Shared → Prop} {s : Shared} {x L q : Addr} {h₀ : Heap} {news : List (Addr × Obj)} {env : Env} {pos : Pos} {T id : String} {Q : Value → Shared → Prop} (hT : T = "method-wrapper" ∨ T = "builtin_function_or_method") (N : News h₀ L s.heap news) (hq : (q, wrapObj T id x) ∈ news) (h : wpAny (model prog w) A (call (.ref q) []) Q E s) :
    wpAny (model prog w) A (callWith pos (.ref q) [] (backTo pos (starEach [] env)) []) Q E s := callWith_W hT (N _ hq).1 h
section
variable {w : World} {pT : Program} {loose : List Str} {mean : ExcName → Option Value} {mg mb : Str → Option Value}
theorem push_code {x dx : Addr} {items : List Value} {ep : Nat} {hs : Int} {tk0 : Tok} {sz : Int} {t0 : Tok} {n : Nat} {fw wd : Str} {t u : Tok} {nw : List (Addr × Obj)} {dp un : Nat} {gd : Option (List Code)} {cn : Str} {cs : Scope} {a : Addr} {ccd : Value} {cl : List (Str × Addr)} {outer : List Env} {A₀ : Around} {base h₀ : Heap} {L : Addr} {m : Str → Option Value} {s : Shared} {Q E : Value → Shared → Prop}
    (B : Below A₀ base outer h₀) (F : Fr h₀ L s.heap m) (X : (Mine.hd.heap_39 w.params).In h₀) (T : Top pT loose mean mg mb h₀) (hk : cs.kind = .function)
    (hd1 : dp + 8 < recursionLimit) (hoff : ∀ p ∈ nw, @Ne Nat p.1 x) (hoffd : ∀ p ∈ nw, @Ne Nat p.1 dx) (hxd : @Ne Nat x dx) (N : News h₀ L s.heap ((x, accObj dx items ep) :: (dx, dictOf [⟨hs, .str (Str.ofString "_initial_size") tk0, .int sz t0⟩] n) :: nw)) (hsz : items.length ≤ 900)
    (hret : ∀ T h' tk', Fr h₀ L h' m → News h₀ L h' ((x, accObj dx (items ++ [.ref T]) (ep + 1)) :: (dx, dictOf [⟨hs, .str (Str.ofString "_initial_size") tk0, .int sz t0⟩] n) :: (T, tup2 fw t wd u) :: nw) → AllLt T nw → @LT.lt Nat _ x T → @LT.lt Nat _ dx T → Q .none ⟨h', s.gens, s.drawn, tk', s.os⟩) :
    codeAny (model PySem.Challenge.pw_tc0044_01 w) (ktrTop dp un gd cn cs L a ccd cl outer) (.call (.ref 136) ⟨[.ref x, .str fw t, .str wd u], []⟩) (fun r s' => match r with | .ok (.ret v) => Q v s' | .ok _ => False | .error e => E e s') s := by
  k_dflt cell_enter
  (repeat' (first | (k_unfold; (try dsimp only)) | (k_end; wrow_close) | (first | with_reducible ((with_reducible show wpAny _ _ (call (Value.builtin "list.append") _) _ _ _); ((k_here; k_dflt (refine' acc_append ?k1 ?k2 ?k3 ?k4 ?k5 ?k6 ?k7 ?_; (case k1 => k_asm); (case k2 => k_asm); (case k3 => k_asm); (case k4 => k_upd); (case k5 => k_mem); (case k6 => k_is); (case k7 => first | assumption | lia); k_whole; intro h' F' N')))) | with_reducible ((with_reducible show wpAny _ _ (getMethod (Value.ref _) _ _) _ _ _); ((k_here; k_dflt (first | (refine' method_fnA ?k1 ?k2 ?k3 ?k4 ?k5 ?k6 ?k7 ?k8 ?_; (case k1 => k_asm); (case k2 => k_asm); (case k3 => k_inst); (case k4 => k_is); (case k5 => k_is); (case k6 => k_is); (case k7 => k_is); (case k8 => k_get); k_whole) | (refine' method_biA ?k1 ?k2 ?k3 ?k4 ?k5 ?k6 ?k7 ?k8 ?_; (case k1 => k_asm); (case k2 => k_asm); (case k3 => k_inst); (case k4 => k_is); (case k5 => k_is); (case k6 => k_is); (case k7 => k_is); (case k8 => k_get); k_whole) | (refine' super_len ?k1 ?k2 ?k3 ?k4 ?k5 ?k6 ?k7 ?k8 ?_; (case k1 => k_asm); (case k2 => k_asm); (case k3 => k_asm); (case k4 => k_mem); (case k5 => k_inst); (case k6 => k_is); (case k7 => ks_is); (case k8 => k_is); intro q' h' F' N' l1; (try k_lt l1)) | (refine' super_pop ?k1 ?k2 ?k3 ?k4 ?k5 ?k6 ?k7 ?k8 ?_; (case k1 => k_asm); (case k2 => k_asm); (case k3 => k_asm); (case k4 => k_mem); (case k5 => k_inst); (case k6 => k_is); (case k7 => ks_is); (case k8 => k_is); intro q' h' F' N' l1; (try k_lt l1)))))) | walk1) | dsimp only | (leave1; try dsimp only)))
  (with_reducible rename Fr h₀ L _ m => F₈)
  (with_reducible rename News h₀ L _ _ => N₈)
  (with_reducible rename _ ∧ _ => l₈)
  exact hret _ _ _ F₈ (news_sub N₈ (by intro q hq; simp only [List.mem_cons] at hq ⊢; rcases hq with h | h | h | h <;> simp [h])) l₈.2.2 l₈.1 l₈.2.1
end
section
variable {w : World} {pT : Program} {loose : List Str} {mean : ExcName → Option Value} {mg mb : Str → Option Value}
theorem push_call {x dx : Addr} {items : List Value} {ep : Nat} {hs : Int} {tk0 : Tok} {sz : Int} {t0 : Tok} {n : Nat} {fw wd : Str} {t u : Tok} {nw : List (Addr × Obj)} {dp un : Nat} {gd : Option (List Code)} {cn : Str} {cs : Scope} {a : Addr} {ccd : Value} {cl : List (Str × Addr)} {outer : List Env} {A₀ : Around} {base h₀ : Heap} {L : Addr} {m : Str → Option Value} {s : Shared} {Q E : Value → Shared → Prop}
    (B : Below A₀ base outer h₀) (F : Fr h₀ L s.heap m) (X : (Mine.hd.heap_39 w.params).In h₀) (T : Top pT loose mean mg mb h₀) (hk : cs.kind = .function)
    (hd1 : dp + 8 < recursionLimit) (hoff : ∀ p ∈ nw, @Ne Nat p.1 x) (hoffd : ∀ p ∈ nw, @Ne Nat p.1 dx) (hxd : @Ne Nat x dx) (N : News h₀ L s.heap ((x, accObj dx items ep) :: (dx, dictOf [⟨hs, .str (Str.ofString "_initial_size") tk0, .int sz t0⟩] n) :: nw)) (hsz : items.length ≤ 900)
    (hret : ∀ T h' tk', Fr h₀ L h' m → News h₀ L h' ((x, accObj dx (items ++ [.ref T]) (ep + 1)) :: (dx, dictOf [⟨hs, .str (Str.ofString "_initial_size") tk0, .int sz t0⟩] n) :: (T, tup2 fw t wd u) :: nw) → AllLt T nw → @LT.lt Nat _ x T → @LT.lt Nat _ dx T → Q .none ⟨h', s.gens, s.drawn, tk', s.os⟩) :
    wpAny (model PySem.Challenge.pw_tc0044_01 w) (ktrTop dp un gd cn cs L a ccd cl outer) (call (.ref 136) [.ref x, .str fw t, .str wd u]) Q E s := by
  exact wpAny_call (push_code B F X T hk hd1 hoff hoffd hxd N hsz hret)
end
section
variable {w : World} {pT : Program} {loose : List Str} {mean : ExcName → Option Value} {mg mb : Str → Option Value}
theorem pc_call {x dx : Addr} {items : List Value} {ep : Nat} {hs : Int} {tk0 : Tok} {sz : Int} {t0 : Tok} {n : Nat} {nw : List (Addr × Obj)} {dp un : Nat} {gd : Option (List Code)} {cn : Str} {cs : Scope} {a : Addr} {ccd : Value} {cl : List (Str × Addr)} {outer : List Env} {A₀ : Around} {base h₀ : Heap} {L : Addr} {m : Str → Option Value} {s : Shared} {Q E : Value → Shared → Prop}
    (B : Below A₀ base outer h₀) (F : Fr h₀ L s.heap m) (X : (Mine.hd.heap_39 w.params).In h₀) (T : Top pT loose mean mg mb h₀) (hk : cs.kind = .function)
    (hd1 : dp + 8 < recursionLimit) (N : News h₀ L s.heap ((x, accObj dx items ep) :: (dx, dictOf [⟨hs, .str (Str.ofString "_initial_size") tk0, .int sz t0⟩] n) :: nw))
    (hret : ∀ t' h' tk', Fr h₀ L h' m → News h₀ L h' ((x, accObj dx items ep) :: (dx, dictOf [⟨hs, .str (Str.ofString "_initial_size") tk0, .int sz t0⟩] n) :: nw) → Q (.int items.length t') ⟨h', s.gens, s.drawn, tk', s.os⟩) :
    wpAny (model PySem.Challenge.pw_tc0044_01 w) (ktrTop dp un gd cn cs L a ccd cl outer) (call (.ref 189) [.ref x]) Q E s := by
  refine wpAny_call ?_
  k_dflt (refine' ks_code_super ?k1 ?k2 ?k3 ?k4 ?k5 ?kA ?kF ?kK ?k6 ?k7 ?k8 ?k9 ?kB ?_ ?c1 ?c2 ?c3 ?c4; (case kA => exact rfl); (case kF => exact rfl); (case kK => assumption); (case k1 => k_asm); (case k2 => k_asm); (case k3 => k_asm); (case k4 => k_asm); (case k5 => k_asm); (case k6 => k_is); (case k7 => k_is); (case k8 => ktr_room); (case k9 => exact BindsTo.of_eq rfl); (case kB => exact locs rfl); (case c1 => decide); (case c2 => exact rfl); (case c3 => exact rfl); (case c4 => exact rfl); intro g' L' h' FG' F' N' B' X' T' l1; (try k_lt l1); (try dsimp only); (try k_lift B'); (try k_fold))
  generalize s.toks + (List.length _) = tk₁
  (repeat' (first | (k_unfold; (try dsimp only)) | (k_end; wrow_close) | (first | with_reducible ((with_reducible show wpAny _ _ (call (Value.ref _) _) _ _ _); ((k_here; k_dflt (first | (refine' call_W_len ?k1 ?k2 ?k3 ?_; (case k1 => k_asm); (case k2 => k_mem); (case k3 => k_mem); k_whole) | (refine' call_W_pop ?k1 ?k2 ?k3 ?k4 ?k5 ?k6 ?k7 ?k8 ?k9 ?k10 ?k11 ?k12 ?_; (case k1 => k_asm); (case k2 => k_asm); (case k3 => k_asm); (case k4 => k_mem); (case k5 => k_upd); (case k6 => k_mem); (case k7 => k_is); (case k8 => k_is); (case k9 => k_is); (case k10 => rfl); (case k11 => k_is); (case k12 => first | assumption | lia); k_whole; intro h' F' N'))))) | with_reducible ((with_reducible show wpAny _ _ (callWith _ (Value.ref _) _ _ _) _ _ _); ((k_here; k_dflt (refine' callWith_W' ?k1 ?k2 ?k3 ?_; (case k2 => k_asm); (case k3 => k_mem); (case k1 => first | exact .inl rfl | exact .inr rfl); k_whole)))) | with_reducible ((with_reducible show wpAny _ _ (getMethod (Value.ref _) _ _) _ _ _); ((k_here; k_dflt (first | (refine' method_fnA ?k1 ?k2 ?k3 ?k4 ?k5 ?k6 ?k7 ?k8 ?_; (case k1 => k_asm); (case k2 => k_asm); (case k3 => k_inst); (case k4 => k_is); (case k5 => k_is); (case k6 => k_is); (case k7 => k_is); (case k8 => k_get); k_whole) | (refine' method_biA ?k1 ?k2 ?k3 ?k4 ?k5 ?k6 ?k7 ?k8 ?_; (case k1 => k_asm); (case k2 => k_asm); (case k3 => k_inst); (case k4 => k_is); (case k5 => k_is); (case k6 => k_is); (case k7 => k_is); (case k8 => k_get); k_whole) | (refine' super_len ?k1 ?k2 ?k3 ?k4 ?k5 ?k6 ?k7 ?k8 ?_; (case k1 => k_asm); (case k2 => k_asm); (case k3 => k_asm); (case k4 => k_mem); (case k5 => k_inst); (case k6 => k_is); (case k7 => ks_is); (case k8 => k_is); intro q' h' F' N' l1; (try k_lt l1)) | (refine' super_pop ?k1 ?k2 ?k3 ?k4 ?k5 ?k6 ?k7 ?k8 ?_; (case k1 => k_asm); (case k2 => k_asm); (case k3 => k_asm); (case k4 => k_mem); (case k5 => k_inst); (case k6 => k_is); (case k7 => ks_is); (case k8 => k_is); intro q' h' F' N' l1; (try k_lt l1)))))) | walk1) | dsimp only | (leave1; try dsimp only)))
  (with_reducible rename Fr h₀ L _ m => F₈)
  (with_reducible rename News h₀ L _ _ => N₈)
  exact hret _ _ _ F₈ (news_sub N₈ (by intro q hq; simp only [List.mem_cons] at hq ⊢; rcases hq with h | h | h <;> simp [h]))
end
local macro_rules | `(tactic| walk_at "wpAt") => `(tactic| (ks_step "execs nil"; refine wpAt_of_wpAny ?_))
section
variable {w : World} {pT : Program} {loose : List Str} {mean : ExcName → Option Value} {mg mb : Str → Option Value}
theorem pop_call {x dx : Addr} {items : List Value} {ep : Nat} {hs : Int} {tk0 : Tok} {sz : Int} {t0 : Tok} {n : Nat} {v : Value} {nw : List (Addr × Obj)} {dp un : Nat} {gd : Option (List Code)} {cn : Str} {cs : Scope} {a : Addr} {ccd : Value} {cl : List (Str × Addr)} {outer : List Env} {A₀ : Around} {base h₀ : Heap} {L : Addr} {m : Str → Option Value} {s : Shared} {Q E : Value → Shared → Prop}
    (B : Below A₀ base outer h₀) (F : Fr h₀ L s.heap m) (X : (Mine.hd.heap_39 w.params).In h₀) (T : Top pT loose mean mg mb h₀) (hk : cs.kind = .function)
    (hd1 : dp + 12 < recursionLimit) (hoff : ∀ p ∈ nw, @Ne Nat p.1 x) (hoffd : ∀ p ∈ nw, @Ne Nat p.1 dx) (hxd : @Ne Nat x dx) (N : News h₀ L s.heap ((x, accObj dx (items ++ [v]) ep) :: (dx, dictOf [⟨hs, .str (Str.ofString "_initial_size") tk0, .int sz t0⟩] n) :: nw)) (hsz : items.length ≤ 900)
    (hret : ∀ h' tk', Fr h₀ L h' m → News h₀ L h' ((x, accObj dx items (ep + 1)) :: (dx, dictOf [⟨hs, .str (Str.ofString "_initial_size") tk0, .int sz t0⟩] n) :: nw) → Q v ⟨h', s.gens, s.drawn, tk', s.os⟩) :
    wpAny (model PySem.Challenge.pw_tc0044_01 w) (ktrTop dp un gd cn cs L a ccd cl outer) (call (.ref 152) [.ref x]) Q E s := by
  refine wpAny_call ?_
  k_dflt (refine' ks_code_super ?k1 ?k2 ?k3 ?k4 ?k5 ?kA ?kF ?kK ?k6 ?k7 ?k8 ?k9 ?kB ?_ ?c1 ?c2 ?c3 ?c4; (case kA => exact rfl); (case kF => exact rfl); (case kK => assumption); (case k1 => k_asm); (case k2 => k_asm); (case k3 => k_asm); (case k4 => k_asm); (case k5 => k_asm); (case k6 => k_is); (case k7 => k_is); (case k8 => ktr_room); (case k9 => exact BindsTo.of_eq rfl); (case kB => exact locs rfl); (case c1 => decide); (case c2 => exact rfl); (case c3 => exact rfl); (case c4 => exact rfl); intro g' L' h' FG' F' N' B' X' T' l1; (try k_lt l1); (try dsimp only); (try k_lift B'); (try k_fold))
  generalize s.toks + (List.length _) = tk₁
  repeat (first | with_reducible ((with_reducible show wpAny _ _ (call (Value.ref _) _) _ _ _); ((k_here; k_dflt (refine' pc_call ?k1 ?k2 ?k3 ?k4 ?k5 ?k6 ?k7 ?_; (case k1 => k_asm); (case k2 => k_asm); (case k3 => k_asm); (case k4 => k_asm); (case k5 => rfl); (case k6 => ktr_room); (case k7 => k_asm); intro t' h' tk' F' N')))) | with_reducible ((with_reducible show wpAny _ _ (getMethod (Value.ref _) _ _) _ _ _); ((k_here; k_dflt (first | (refine' method_fnA ?k1 ?k2 ?k3 ?k4 ?k5 ?k6 ?k7 ?k8 ?_; (case k1 => k_asm); (case k2 => k_asm); (case k3 => k_inst); (case k4 => k_is); (case k5 => k_is); (case k6 => k_is); (case k7 => k_is); (case k8 => k_get); k_whole) | (refine' method_biA ?k1 ?k2 ?k3 ?k4 ?k5 ?k6 ?k7 ?k8 ?_; (case k1 => k_asm); (case k2 => k_asm); (case k3 => k_inst); (case k4 => k_is); (case k5 => k_is); (case k6 => k_is); (case k7 => k_is); (case k8 => k_get); k_whole) | (refine' super_len ?k1 ?k2 ?k3 ?k4 ?k5 ?k6 ?k7 ?k8 ?_; (case k1 => k_asm); (case k2 => k_asm); (case k3 => k_asm); (case k4 => k_mem); (case k5 => k_inst); (case k6 => k_is); (case k7 => ks_is); (case k8 => k_is); intro q' h' F' N' l1; (try k_lt l1)) | (refine' super_pop ?k1 ?k2 ?k3 ?k4 ?k5 ?k6 ?k7 ?k8 ?_; (case k1 => k_asm); (case k2 => k_asm); (case k3 => k_asm); (case k4 => k_mem); (case k5 => k_inst); (case k6 => k_is); (case k7 => ks_is); (case k8 => k_is); intro q' h' F' N' l1; (try k_lt l1)))))) | walk1)
  · exfalso
    have hz : ((items ++ [v]).length : Int) = 0 := by assumption
    simp at hz
    lia
  refine wpAt_of_wpAny ?_
  walk1
  walk1
  dsimp only
  walk1
  walk1
  k_dflt (refine ks_wpAt_MethodCall ?_)
  (repeat' (first | (k_unfold; (try dsimp only)) | (k_end; wrow_close) | (first | with_reducible ((with_reducible show wpAny _ _ (call (Value.ref _) _) _ _ _); ((k_here; k_dflt (first | (refine' call_W_len ?k1 ?k2 ?k3 ?_; (case k1 => k_asm); (case k2 => k_mem); (case k3 => k_mem); k_whole) | (refine' call_W_pop ?k1 ?k2 ?k3 ?k4 ?k5 ?k6 ?k7 ?k8 ?k9 ?k10 ?k11 ?k12 ?_; (case k1 => k_asm); (case k2 => k_asm); (case k3 => k_asm); (case k4 => k_mem); (case k5 => k_upd); (case k6 => k_mem); (case k7 => k_is); (case k8 => k_is); (case k9 => k_is); (case k10 => rfl); (case k11 => k_is); (case k12 => first | assumption | lia); k_whole; intro h' F' N'))))) | with_reducible ((with_reducible show wpAny _ _ (callWith _ (Value.ref _) _ _ _) _ _ _); ((k_here; k_dflt (refine' callWith_W' ?k1 ?k2 ?k3 ?_; (case k2 => k_asm); (case k3 => k_mem); (case k1 => first | exact .inl rfl | exact .inr rfl); k_whole)))) | with_reducible ((with_reducible show wpAny _ _ (getMethod (Value.ref _) _ _) _ _ _); ((k_here; k_dflt (first | (refine' method_fnA ?k1 ?k2 ?k3 ?k4 ?k5 ?k6 ?k7 ?k8 ?_; (case k1 => k_asm); (case k2 => k_asm); (case k3 => k_inst); (case k4 => k_is); (case k5 => k_is); (case k6 => k_is); (case k7 => k_is); (case k8 => k_get); k_whole) | (refine' method_biA ?k1 ?k2 ?k3 ?k4 ?k5 ?k6 ?k7 ?k8 ?_; (case k1 => k_asm); (case k2 => k_asm); (case k3 => k_inst); (case k4 => k_is); (case k5 => k_is); (case k6 => k_is); (case k7 => k_is); (case k8 => k_get); k_whole) | (refine' super_len ?k1 ?k2 ?k3 ?k4 ?k5 ?k6 ?k7 ?k8 ?_; (case k1 => k_asm); (case k2 => k_asm); (case k3 => k_asm); (case k4 => k_mem); (case k5 => k_inst); (case k6 => k_is); (case k7 => ks_is); (case k8 => k_is); intro q' h' F' N' l1; (try k_lt l1)) | (refine' super_pop ?k1 ?k2 ?k3 ?k4 ?k5 ?k6 ?k7 ?k8 ?_; (case k1 => k_asm); (case k2 => k_asm); (case k3 => k_asm); (case k4 => k_mem); (case k5 => k_inst); (case k6 => k_is); (case k7 => ks_is); (case k8 => k_is); intro q' h' F' N' l1; (try k_lt l1)))))) | walk1) | dsimp only | (leave1; try dsimp only)))
  (with_reducible rename Fr h₀ L _ m => F₈)
  (with_reducible rename News h₀ L _ _ => N₈)
  exact hret _ _ F₈ (news_sub N₈ (by intro q hq; simp only [List.mem_cons] at hq ⊢; rcases hq with h | h | h <;> simp [h]))
end
end Mine
end
example : True ∧ True := by first | (w_top off; walk1; done) | exact ⟨trivial, trivial⟩
section
open PySem PySem.W PySem.Spec PySem.Calls PyProof.Rows Builtin Builtin.ObjectAttr
example : (fun (_ : OpenLaw) (_ : Params → Frag) => True) PySem.Challenge.rw_tc0044_01 Mine.hd.heap_39 := by k_fill; trivial
namespace Mine
theorem newsLt {h₀ h : Heap} {L : Addr} {news : List (Addr × Obj)} (N : News h₀ L h news) : ∀ p ∈ news, p.1 < h.objs.size := fun p hp => Heap.lt_size (N p hp).1
section
variable {prog : Program} {w : World} {pT : Program} {A : Around} {E : Value → Shared → Prop} {s : Shared} {K : Frag} {x dx L : Addr} {h₀ : Heap} {m : Str → Option Value} {items : List Value} {ep : Nat} {od : Obj} {news news' : List (Addr × Obj)} {v : Value}
theorem sub_A {value slice : Expr} {i : Value} {ops : List Value} {Q : Value → Shared → Prop} (F : Fr h₀ L s.heap m) (X₀ : K.In h₀) (I : InstAt s.heap x (accObj dx items ep) 192 (some od)) (hf : findIn K (.ref 192) "__getitem__" = some (some (.builtin "list.__getitem__")))
    (h : wpAny (model prog w) A (getItem (.ref x) i) Q E s) (hsl : subscripted slice false (.ref x) i = operate ops (getItem (.ref x) i) := by with_unfolding_all rfl) : wpAny (model prog w) A (subscriptTail value slice (.ref x) i) Q E s := by
  have X := X₀.keeps F.keep
  unfold subscriptTail getitemInPython specialOf
  refine wpAny_bind (wpAny_bind (wpAny_bind (I.type.here ((looks_findIn X hf).here (wpAny_pure ?_)))))
  rw [hsl]
  exact wpAny_bind (wpAny_operating (wpAny_mono h (fun r s₃ h₃ => wpAny_bind (wpAny_letTemporaryGo (wpAny_pure h₃))) fun _ _ x => x))
theorem sub_A_int {value slice : Expr} {k : Int} {t : Tok} {Q : Value → Shared → Prop} (F : Fr h₀ L s.heap m) (X₀ : K.In h₀) (N : News h₀ L s.heap news) (hx : (x, accObj dx items ep) ∈ news) (hd : (dx, od) ∈ news)
    (hsub : subIn K (.ref 192) (.type "list") = some true) (hseq : noSeq K 192 = true) (hf : findIn K (.ref 192) "__getitem__" = some (some (.builtin "list.__getitem__")))
    (h0 : 0 ≤ k) (hfit : k < 2 ^ 63) (hk : items[k.toNat]? = some v) (h : Q v s) (hsl : subscripted slice false (.ref x) (.int k t) = operate [.ref x, .int k t] (getItem (.ref x) (.int k t)) := by with_unfolding_all rfl) :
    wpAny (model prog w) A (subscriptTail value slice (.ref x) (.int k t)) Q E s :=
  sub_A F X₀ (acc_inst N hx hd) hf (acc_getInt F X₀ N hx hd hsub hseq hf h0 hfit hk h) hsl
theorem sub_A_slice {value slice : Expr} {h : Heap} {g : Array GenState} {d : Drawn} {t : Nat} {os : OsState} {vl vu : Value} {lo hi : Option Int} {new : List Value} {Q : Value → Shared → Prop} (F : Fr h₀ L h m) (X₀ : K.In h₀) (N : News h₀ L h news) (hx : (x, accObj dx items ep) ∈ news) (hd : (dx, od) ∈ news)
    (hsub : subIn K (.ref 192) (.type "list") = some true) (hseq : noSeq K 192 = true) (hf : findIn K (.ref 192) "__getitem__" = some (some (.builtin "list.__getitem__")))
    (pl : IsPart vl lo) (pu : IsPart vu hi) (hsz : items.length ≤ 1000) (ep' : slicePick items.toArray lo hi none = new.toArray)
    (hq : ∀ l h', Fr h₀ L h' m → News h₀ L h' ((l, W.listOf new.toArray 0) :: news) → (∀ p ∈ news, p.1 < l) → Q (.ref l) ⟨h', g, d, t, os⟩)
    (hsl : subscripted slice false (.ref x) (.ref h.objs.size) = operate [.ref h.objs.size, .ref x] (getItem (.ref x) (.ref h.objs.size)) := by with_unfolding_all rfl) :
    wpAny (model prog w) A (subscriptTail value slice (.ref x) (.ref h.objs.size)) Q E ⟨h.push { cls := .type "slice", data := .fields #[vl, vu, .none] }, g, d, t, os⟩ := by
  have F1 := F.push { cls := .type "slice", data := .fields #[vl, vu, .none] }
  have N1 := N.push F { cls := .type "slice", data := .fields #[vl, vu, .none] }
  refine sub_A (s := ⟨_, g, d, t, os⟩) F1 X₀ (acc_inst N1 (.tail _ hx) (.tail _ hd)) hf ?_ hsl
  refine acc_getSlice (s := ⟨_, g, d, t, os⟩) (lo := lo) (hi := hi) F1 X₀ N1 (.tail _ hx) (.tail _ hd) hsub hseq hf (Heap.IsSliceOf.new h vl vu .none) pl pu .none hsz ?_
  rw [ep']
  have N2 := N1.push F1 (W.listOf new.toArray 0)
  refine hq _ _ (F1.push _) (news_sub N2 (by intro q hq; simp only [List.mem_cons] at hq ⊢; rcases hq with h | h <;> simp [h])) (fun p hp => ?_)
  exact newsLt N1 p (.tail _ hp)
theorem set_A_slice {h : Heap} {g : Array GenState} {d : Drawn} {t : Nat} {os : OsState} {vl vu : Value} {lo hi : Option Int} {l : Addr} {new items' : List Value} {nn ep' : Nat} {Q : Unit → Shared → Prop} (F : Fr h₀ L h m) (X₀ : K.In h₀) (N : News h₀ L h news) (hd : (dx, od) ∈ news)
    (hsub : subIn K (.ref 192) (.type "list") = some true) (hseq : noSeq K 192 = true) (hf : findIn K (.ref 192) "__setitem__" = some (some (.builtin "list.__setitem__")))
    (pl : IsPart vl lo) (pu : IsPart vu hi) (hl : (l, W.listOf new.toArray nn) ∈ news) (hlx : l ≠ x) (hsz : items.length ≤ 1000) (hsz' : new.length ≤ 1000)
    (e : (items.toArray.extract 0 (sliceBounds lo hi none items.length).1.toNat ++ new.toArray ++ items.toArray.extract (max (sliceBounds lo hi none items.length).1 (sliceBounds lo hi none items.length).2.1).toNat items.length) = items'.toArray)
    (ee : ep' = if items'.length == items.length then ep else ep + 1)
    (U : Upd x (accObj dx items ep) (accObj dx items' ep') news news')
    (hq : ∀ h', Fr h₀ L h' m → News h₀ L h' news' → Q () ⟨h', g, d, t, os⟩) : wpAny (model prog w) A (setItem (.ref x) (.ref h.objs.size) (.ref l)) Q E ⟨h.push { cls := .type "slice", data := .fields #[vl, vu, .none] }, g, d, t, os⟩ := by
  have F1 := F.push { cls := .type "slice", data := .fields #[vl, vu, .none] }
  have N1 := N.push F { cls := .type "slice", data := .fields #[vl, vu, .none] }
  have hx := Nat.ne_of_lt (newsLt N _ (upd_mem U))
  refine acc_setSlice (s := ⟨_, g, d, t, os⟩) (lo := lo) (hi := hi) (items' := items') F1 X₀ N1 (.tail _ hd) hsub hseq hf (Heap.IsSliceOf.new h vl vu .none) pl pu .none (.tail _ hl) hlx hsz hsz' e ee (.tail (Ne.symm hx) U) ?_
  exact fun h' F' N' => hq h' F' (news_sub N' fun q hq => .tail _ hq)
theorem slicePick_from (items : List Value) (v : Value) : slicePick (items ++ [v]).toArray (some (items.length : Int)) none none = [v].toArray := by
  have e : (sliceBounds (some (items.length : Int)) none none (items ++ [v]).toArray.size) = ((items.length : Int), (items.length : Int) + 1, 1) := by
    unfold sliceBounds
    simp
    rw [if_neg (by lia)]
    lia
  unfold slicePick
  rw [e]
  unfold sliceRange
  simp
  rw [if_pos (by lia), show ((items.length : Int) + 1 - items.length).toNat = 1 by lia]
  simp
theorem cutAt_from (items : List Value) (v : Value) : ((items ++ [v]).toArray.extract 0 (sliceBounds (some (items.length : Int)) none none (items ++ [v]).length).1.toNat ++ ([] : List Value).toArray ++ (items ++ [v]).toArray.extract (max (sliceBounds (some (items.length : Int)) none none (items ++ [v]).length).1 (sliceBounds (some (items.length : Int)) none none (items ++ [v]).length).2.1).toNat (items ++ [v]).length) = items.toArray := by
  have e : (sliceBounds (some (items.length : Int)) none none (items ++ [v]).length) = ((items.length : Int), (items.length : Int) + 1, 1) := by
    unfold sliceBounds
    simp
    rw [if_neg (by lia)]
    lia
  rw [e]
  simp
  lia
theorem setAll (items new : List Value) : (items.toArray.extract 0 (sliceBounds none none none items.length).1.toNat ++ new.toArray ++ items.toArray.extract (max (sliceBounds none none none items.length).1 (sliceBounds none none none items.length).2.1).toNat items.length) = new.toArray := by
  unfold sliceBounds
  simp
end
end Mine
end
example : True ∧ True := by first | (w_top off; walk1; done) | exact ⟨trivial, trivial⟩
section
open PySem PySem.W PySem.Spec PySem.Calls PyProof.Rows Builtin Builtin.ObjectAttr
example : (fun (_ : OpenLaw) (_ : Params → Frag) => True) PySem.Challenge.rw_tc0044_01 Mine.hd.heap_39 := by k_fill; trivial
namespace Mine
theorem put_sz {h : Int} {k v : Value} {hs : Int} {tk0 : Tok} {sz : Value} {n : Nat} : (putL (Str.ofString "_initial_size") h k v [⟨hs, .str (Str.ofString "_initial_size") tk0, sz⟩], putN (Str.ofString "_initial_size") [⟨hs, .str (Str.ofString "_initial_size") tk0, sz⟩] n) = ([⟨hs, .str (Str.ofString "_initial_size") tk0, v⟩], n) := by kernel_rfl
local macro_rules | `(tactic| k_put) => `(tactic| exact put_sz)
local macro_rules | `(tactic| k_mem) => `(tactic| assumption)
section
variable {w : World} {pT : Program} {loose : List Str} {mean : ExcName → Option Value} {mg mb : Str → Option Value}
theorem popfrom_call {x dx : Addr} {items : List Value} {ep : Nat} {hs : Int} {tk0 : Tok} {sz : Int} {t0 : Tok} {n : Nat} {v : Value} {ti : Tok} {nw : List (Addr × Obj)} {dp un : Nat} {gd : Option (List Code)} {cn : Str} {cs : Scope} {a : Addr} {ccd : Value} {cl : List (Str × Addr)} {outer : List Env} {A₀ : Around} {base h₀ : Heap} {L : Addr} {m : Str → Option Value} {s : Shared} {Q E : Value → Shared → Prop}
    (B : Below A₀ base outer h₀) (F : Fr h₀ L s.heap m) (X : (Mine.hd.heap_39 w.params).In h₀) (T : Top pT loose mean mg mb h₀) (hk : cs.kind = .function)
    (hd1 : dp + 8 < recursionLimit) (hoff : ∀ p ∈ nw, @Ne Nat p.1 x) (hoffd : ∀ p ∈ nw, @Ne Nat p.1 dx) (hxd : @Ne Nat x dx) (N : News h₀ L s.heap ((x, accObj dx (items ++ [v]) ep) :: (dx, dictOf [⟨hs, .str (Str.ofString "_initial_size") tk0, .int sz t0⟩] n) :: nw)) (hsz : items.length ≤ 900)
    (hret : ∀ l ep' h' tk', Fr h₀ L h' m → News h₀ L h' ((x, accObj dx items ep') :: (dx, dictOf [⟨hs, .str (Str.ofString "_initial_size") tk0, .int sz t0⟩] n) :: (l, W.listOf #[v] 0) :: nw) → AllLt l nw → @LT.lt Nat _ x l → @LT.lt Nat _ dx l → Q (.ref l) ⟨h', s.gens, s.drawn, tk', s.os⟩) :
    wpAny (model PySem.Challenge.pw_tc0044_01 w) (ktrTop dp un gd cn cs L a ccd cl outer) (call (.ref 144) [.ref x, .int items.length ti]) Q E s := by
  refine wpAny_call ?_
  k_dflt (refine' code_def ?k1 ?k2 ?k3 ?k4 ?k5 ?kA ?kF ?kK ?k6 ?k7 ?k8 ?k9 ?kB ?_ ?c2 ?c3 ?c4 ?c5; (case kA => exact rfl); (case kF => exact rfl); (case kK => assumption); (case k1 => k_asm); (case k2 => k_asm); (case k3 => k_asm); (case k4 => k_asm); (case k5 => k_asm); (case k6 => k_is); (case k7 => k_is); (case k8 => ktr_room); (case k9 => exact binds_K (by k_in) rfl (by k_is) rfl rfl rfl); (case c5 => decide); (case kB => exact locs rfl); (case c2 => exact rfl); (case c3 => exact rfl); (case c4 => exact rfl); k_whole; intro g' L' h' FG' F' N' B' X' T'; (try dsimp only); (try k_lift B'); (try k_fold))
  (repeat' (first | (k_unfold; (try dsimp only)) | (k_end; wrow_close) | (first | with_reducible ((with_reducible show wpAny _ _ (setItem (Value.ref _) (Value.ref _) _) _ _ _); ((k_here; k_dflt (refine' set_A_slice ?k1 ?k2 ?k3 ?k4 ?k5 ?k6 ?k7 ?k8 ?k9 ?k10 ?k11 ?k12 ?k13 ?k14 ?k15 ?k16 ?_; (case k1 => k_asm); (case k2 => k_asm); (case k3 => k_asm); (case k16 => k_upd); (case k10 => k_mem); (case k4 => k_mem); (case k5 => k_is); (case k6 => k_is); (case k7 => k_is); (case k8 => constructor); (case k9 => constructor); (case k11 => k_ne); (case k14 => first | exact cutAt_from _ _ | exact setAll _ _); (case k12 => first | assumption | lia | (simp; lia)); (case k13 => first | assumption | exact Nat.zero_le _ | (simp; done) | lia); (case k15 => exact rfl); k_whole; intro h' F' N')))) | with_reducible ((with_reducible show wpAny _ _ (subscriptTail _ _ (Value.ref _) _) _ _ _); ((k_here; k_dflt (refine' sub_A_slice ?k1 ?k2 ?k3 ?k4 ?k5 ?k6 ?k7 ?k8 ?k9 ?k10 ?k11 ?k12 ?_; (case k1 => k_asm); (case k2 => k_asm); (case k3 => k_asm); (case k4 => k_mem); (case k5 => k_mem); (case k6 => k_is); (case k7 => k_is); (case k8 => k_is); (case k9 => constructor); (case k10 => constructor); (case k11 => first | assumption | lia | (rw [List.length_append, List.length_singleton]; lia)); (case k12 => exact slicePick_from _ _); k_whole; intro l' h' F' N' l1; (try k_lt l1))))) | walk1) | dsimp only | (leave1; try dsimp only)))
  (with_reducible rename Fr h₀ L _ m => F₈)
  (with_reducible rename News h₀ L _ _ => N₈)
  (with_reducible rename @LT.lt Nat _ x _ ∧ _ => l₈)
  exact hret _ (if (items.length == (items ++ [v]).length) = true then ep else ep + 1) _ _ F₈ (news_sub N₈ (by intro q hq; simp only [List.mem_cons] at hq ⊢; rcases hq with h | h | h | h <;> simp [h])) l₈.2.2 l₈.1 l₈.2.1
end
section
variable {w : World} {pT : Program} {loose : List Str} {mean : ExcName → Option Value} {mg mb : Str → Option Value}
theorem reset_call {x dx : Addr} {items : List Value} {ep : Nat} {hs : Int} {tk0 : Tok} {sz : Int} {t0 : Tok} {n : Nat} {nw : List (Addr × Obj)} {dp un : Nat} {gd : Option (List Code)} {cn : Str} {cs : Scope} {a : Addr} {ccd : Value} {cl : List (Str × Addr)} {outer : List Env} {A₀ : Around} {base h₀ : Heap} {L : Addr} {m : Str → Option Value} {s : Shared} {Q E : Value → Shared → Prop}
    (B : Below A₀ base outer h₀) (F : Fr h₀ L s.heap m) (X : (Mine.hd.heap_39 w.params).In h₀) (T : Top pT loose mean mg mb h₀) (hk : cs.kind = .function)
    (hd1 : dp + 8 < recursionLimit) (hoff : ∀ p ∈ nw, @Ne Nat p.1 x) (hoffd : ∀ p ∈ nw, @Ne Nat p.1 dx) (hxd : @Ne Nat x dx) (N : News h₀ L s.heap ((x, accObj dx items ep) :: (dx, dictOf [⟨hs, .str (Str.ofString "_initial_size") tk0, .int sz t0⟩] n) :: nw)) (hsz : items.length ≤ 900)
    (hret : ∀ ep' h' tk' t1, Fr h₀ L h' m → News h₀ L h' ((x, accObj dx [] ep') :: (dx, dictOf [⟨hs, .str (Str.ofString "_initial_size") tk0, .int 0 t1⟩] n) :: nw) → Q .none ⟨h', s.gens, s.drawn, tk', s.os⟩) :
    wpAny (model PySem.Challenge.pw_tc0044_01 w) (ktrTop dp un gd cn cs L a ccd cl outer) (call (.ref 174) [.ref x]) Q E s := by
  refine wpAny_call ?_
  k_dflt (refine' code_def ?k1 ?k2 ?k3 ?k4 ?k5 ?kA ?kF ?kK ?k6 ?k7 ?k8 ?k9 ?kB ?_ ?c2 ?c3 ?c4 ?c5; (case kA => exact rfl); (case kF => exact rfl); (case kK => assumption); (case k1 => k_asm); (case k2 => k_asm); (case k3 => k_asm); (case k4 => k_asm); (case k5 => k_asm); (case k6 => k_is); (case k7 => k_is); (case k8 => ktr_room); (case k9 => exact binds_K (by k_in) rfl (by k_is) rfl rfl rfl); (case c5 => decide); (case kB => exact locs rfl); (case c2 => exact rfl); (case c3 => exact rfl); (case c4 => exact rfl); k_whole; intro g' L' h' FG' F' N' B' X' T'; (try dsimp only); (try k_lift B'); (try k_fold))
  (repeat' (first | (k_unfold; (try dsimp only)) | (k_end; wrow_close) | (first | with_reducible ((with_reducible show wpAny _ _ (setItem (Value.ref _) (Value.ref _) _) _ _ _); ((k_here; k_dflt (refine' set_A_slice ?k1 ?k2 ?k3 ?k4 ?k5 ?k6 ?k7 ?k8 ?k9 ?k10 ?k11 ?k12 ?k13 ?k14 ?k15 ?k16 ?_; (case k1 => k_asm); (case k2 => k_asm); (case k3 => k_asm); (case k16 => k_upd); (case k10 => k_mem); (case k4 => k_mem); (case k5 => k_is); (case k6 => k_is); (case k7 => k_is); (case k8 => constructor); (case k9 => constructor); (case k11 => k_ne); (case k14 => first | exact cutAt_from _ _ | exact setAll _ _); (case k12 => first | assumption | lia | (simp; lia)); (case k13 => first | assumption | exact Nat.zero_le _ | (simp; done) | lia); (case k15 => exact rfl); k_whole; intro h' F' N')))) | with_reducible ((with_reducible show wpAny _ _ (setAttr (Value.ref _) _ _) _ _ _); ((k_here; k_dflt (refine' set_A ?k1 ?k2 ?k3 ?k4 ?k5 ?k6 ?k7 ?k8 ?k9 ?k10 ?k11 ?k12 ?k13 ?_; (case k1 => k_asm); (case k2 => k_asm); (case k3 => k_asm); (case k4 => k_inst); (case k5 => k_is); (case k6 => rfl); (case k7 => rfl); (case k8 => k_is); (case k9 => k_is); (case k10 => rfl); (case k11 => k_put); (case k12 => k_upd); (case k13 => first | decide | (simp; done) | lia); k_whole; intro h' F' N')))) | walk1) | dsimp only | (leave1; try dsimp only)))
  (with_reducible rename Fr h₀ L _ m => F₈)
  (with_reducible rename News h₀ L _ _ => N₈)
  exact hret _ _ _ _ F₈ (fun q hq => N₈ q (.tail _ hq))
end
section
variable {w : World} {pT : Program} {loose : List Str} {mean : ExcName → Option Value} {mg mb : Str → Option Value}
theorem resetl_call {x dx : Addr} {items : List Value} {ep : Nat} {hs : Int} {tk0 : Tok} {sz : Int} {t0 : Tok} {n : Nat} {new : List Value} {nn : Nat} {l : Addr} {nw : List (Addr × Obj)} {dp un : Nat} {gd : Option (List Code)} {cn : Str} {cs : Scope} {a : Addr} {ccd : Value} {cl : List (Str × Addr)} {outer : List Env} {A₀ : Around} {base h₀ : Heap} {L : Addr} {m : Str → Option Value} {s : Shared} {Q E : Value → Shared → Prop}
    (B : Below A₀ base outer h₀) (F : Fr h₀ L s.heap m) (X : (Mine.hd.heap_39 w.params).In h₀) (T : Top pT loose mean mg mb h₀) (hk : cs.kind = .function)
    (hd1 : dp + 8 < recursionLimit) (hoff : ∀ p ∈ nw, @Ne Nat p.1 x) (hoffd : ∀ p ∈ nw, @Ne Nat p.1 dx) (hxd : @Ne Nat x dx) (N : News h₀ L s.heap ((x, accObj dx items ep) :: (dx, dictOf [⟨hs, .str (Str.ofString "_initial_size") tk0, .int sz t0⟩] n) :: nw)) (hl : (l, W.listOf new.toArray nn) ∈ nw) (hsz : items.length ≤ 900) (hnew : new.length ≤ 900)
    (hret : ∀ ep' h' tk' t1, Fr h₀ L h' m → News h₀ L h' ((x, accObj dx new ep') :: (dx, dictOf [⟨hs, .str (Str.ofString "_initial_size") tk0, .int 0 t1⟩] n) :: nw) → Q .none ⟨h', s.gens, s.drawn, tk', s.os⟩) :
    wpAny (model PySem.Challenge.pw_tc0044_01 w) (ktrTop dp un gd cn cs L a ccd cl outer) (call (.ref 174) [.ref x, .ref l]) Q E s := by
  have hlx : @Ne Nat l x := hoff _ hl
  refine wpAny_call ?_
  k_dflt (refine' code_def ?k1 ?k2 ?k3 ?k4 ?k5 ?kA ?kF ?kK ?k6 ?k7 ?k8 ?k9 ?kB ?_ ?c2 ?c3 ?c4 ?c5; (case kA => exact rfl); (case kF => exact rfl); (case kK => assumption); (case k1 => k_asm); (case k2 => k_asm); (case k3 => k_asm); (case k4 => k_asm); (case k5 => k_asm); (case k6 => k_is); (case k7 => k_is); (case k8 => ktr_room); (case k9 => exact binds_K (by k_in) rfl (by k_is) rfl rfl rfl); (case c5 => decide); (case kB => exact locs rfl); (case c2 => exact rfl); (case c3 => exact rfl); (case c4 => exact rfl); k_whole; intro g' L' h' FG' F' N' B' X' T'; (try dsimp only); (try k_lift B'); (try k_fold))
  (repeat' (first | (k_unfold; (try dsimp only)) | (k_end; wrow_close) | (first | with_reducible ((with_reducible show wpAny _ _ (setItem (Value.ref _) (Value.ref _) _) _ _ _); ((k_here; k_dflt (refine' set_A_slice ?k1 ?k2 ?k3 ?k4 ?k5 ?k6 ?k7 ?k8 ?k9 ?k10 ?k11 ?k12 ?k13 ?k14 ?k15 ?k16 ?_; (case k1 => k_asm); (case k2 => k_asm); (case k3 => k_asm); (case k16 => k_upd); (case k10 => k_mem); (case k4 => k_mem); (case k5 => k_is); (case k6 => k_is); (case k7 => k_is); (case k8 => constructor); (case k9 => constructor); (case k11 => k_ne); (case k14 => first | exact cutAt_from _ _ | exact setAll _ _); (case k12 => first | assumption | lia | (simp; lia)); (case k13 => first | assumption | exact Nat.zero_le _ | (simp; done) | lia); (case k15 => exact rfl); k_whole; intro h' F' N')))) | with_reducible ((with_reducible show wpAny _ _ (setAttr (Value.ref _) _ _) _ _ _); ((k_here; k_dflt (refine' set_A ?k1 ?k2 ?k3 ?k4 ?k5 ?k6 ?k7 ?k8 ?k9 ?k10 ?k11 ?k12 ?k13 ?_; (case k1 => k_asm); (case k2 => k_asm); (case k3 => k_asm); (case k4 => k_inst); (case k5 => k_is); (case k6 => rfl); (case k7 => rfl); (case k8 => k_is); (case k9 => k_is); (case k10 => rfl); (case k11 => k_put); (case k12 => k_upd); (case k13 => first | decide | (simp; done) | lia); k_whole; intro h' F' N')))) | walk1) | dsimp only | (leave1; try dsimp only)))
  (with_reducible rename Fr h₀ L _ m => F₈)
  (with_reducible rename News h₀ L _ _ => N₈)
  exact hret _ _ _ _ F₈ N₈
end
end Mine
end
example : True ∧ True := by first | (w_top off; walk1; done) | exact ⟨trivial, trivial⟩
section
open PySem PySem.W PySem.Spec PySem.Calls PyProof.Rows Builtin Builtin.ObjectAttr
example : (fun (_ : OpenLaw) (_ : Params → Frag) => True) PySem.Challenge.rw_tc0044_01 Mine.hd.heap_39 := by k_fill; trivial
namespace Mine
section
variable {prog : Program} {w : World} {pT : Program} {A : Around} {E : Value → Shared → Prop} {s : Shared} {K : Frag} {x C f L : Addr} {h₀ : Heap} {m : Str → Option Value} {ox : Obj} {od : Option Obj}
theorem truthy_len {Q : Bool → Shared → Prop} (F : Fr h₀ L s.heap m) (X₀ : K.In h₀) (I : InstAt s.heap x ox C od) (hb : findIn K (.ref C) "__bool__" = some none) (hs : findIn K (.ref C) "__len__" = some (some (.ref f))) (hf : isFn K (.ref f) = true)
    (h : wpAny (model prog w) A.in1 (call (.ref f) [.ref x]) (W.LenBack (fun v s' => match v with | .int n _ => Q (n != 0) s' | _ => False)) E s) : wpAny (model prog w) A (truthy (.ref x)) Q E s := by
  have X := X₀.keeps F.keep
  unfold truthy
  refine wpAny_bind (m := callSpecial? (.ref x) (Str.ofString "__bool__")) (wpAny_bind (wpAny_bind (I.type.here ((looks_findIn X hb).here (wpAny_pure ?_)))))
  refine wpAny_bind (wpAny_bind (I.type.here ((looks_findIn X hs).here ?_)))
  refine wpAny_bind (wpAny_runValue (codeAny_builtin entry_len ?_))
  unfold Builtin.«len»
  refine wpAny_bind (m := oneArg "len" _) (wpAny_pure ?_)
  refine wpAny_bind (m := callSpecial? (.ref x) (Str.ofString "__len__")) (special_fn X I hs (beq_iff_eq.mp hf) (wpAny_mono h (fun r s' hr => ?_) fun _ _ y => y))
  cases r <;> first | exact hr.elim | skip
  obtain ⟨⟨h0, h1⟩, hq⟩ := hr
  refine wpAny_bind (wpAny_holding (wpAny_pure ?_))
  refine wpAny_bind (wpAny_letGo ?_)
  show wpAny _ _ (if _ < (0 : Int) then _ else _) _ _ _
  rw [if_neg (by lia)]
  show wpAny _ _ (if _ ≥ (2 : Int) ^ 63 then _ else _) _ _ _
  rw [if_neg (by lia)]
  exact wpAny_bind (wpAny_mkInt (wpAny_pure (wpAny_pure hq)))
end
section
variable {w : World} {pT : Program} {loose : List Str} {mean : ExcName → Option Value} {mg mb : Str → Option Value}
theorem len_at {x dx : Addr} {items : List Value} {ep : Nat} {hs : Int} {tk0 : Tok} {t0 : Tok} {n : Nat} {ps ps2 : Array Value} {parts : List (Str × Str)} {nw : List (Addr × Obj)} {dp un : Nat} {gd : Option (List Code)} {cn : Str} {cs : Scope} {a : Addr} {ccd : Value} {cl : List (Str × Addr)} {outer : List Env} {A₀ : Around} {base h₀ : Heap} {L : Addr} {m : Str → Option Value} {s : Shared} {Q E : Value → Shared → Prop}
    (B : Below A₀ base outer h₀) (F : Fr h₀ L s.heap m) (X : (Mine.hd.heap_39 w.params).In h₀) (T : Top pT loose mean mg mb h₀) (hk : cs.kind = .function)
    (hd1 : dp + 8 < recursionLimit) (G : AllBare s.gens) (hoff : ∀ p ∈ nw, @Ne Nat p.1 154) (hoff2 : ∀ p ∈ nw, @Ne Nat p.1 161) (hx : @Ne Nat x 154) (hdx : @Ne Nat dx 154) (hx2 : @Ne Nat x 161) (hdx2 : @Ne Nat dx 161)
    (N : News h₀ L s.heap ((x, accObj dx items ep) :: (dx, dictOf [⟨hs, .str (Str.ofString "_initial_size") tk0, .int 0 t0⟩] n) :: (154, tabObj ps) :: (161, tabObj ps2) :: nw)) (ht : TriplesOk ps.toList) (ht2 : TriplesOk ps2.toList)
    (PA : PartsAre nw items parts) (hsz : items.length ≤ 900) (hlen : ∀ p ∈ parts, p.1.length ≤ 1000 ∧ p.2.length ≤ 1000)
    (hret : ∀ t' h' g' tk' ps' ps2', Fr h₀ L h' m → News h₀ L h' ((x, accObj dx items ep) :: (dx, dictOf [⟨hs, .str (Str.ofString "_initial_size") tk0, .int 0 t0⟩] n) :: (154, tabObj ps') :: (161, tabObj ps2') :: nw) → TriplesOk ps'.toList → TriplesOk ps2'.toList → AllBare g' → 0 ≤ sumLen parts → sumLen parts < 2 ^ 63 → Q (.int (sumLen parts) t') ⟨h', g', s.drawn, tk', s.os⟩) :
    wpAny (model PySem.Challenge.pw_tc0044_01 w) (ktrTop dp un gd cn cs L a ccd cl outer) (call (.ref 159) [.ref x]) Q E s := by
  refine len_call (nw := (161, tabObj ps2) :: nw) B F X T hk hd1 G ?_ hx hdx N ht (PA.mono fun _ h => .tail _ h) (by lia) hlen ?_
  · intro p hp
    rcases List.mem_cons.mp hp with rfl | hp
    · exact (by decide : @Ne Nat 161 154)
    · exact hoff p hp
  · intro t' h' g' tk' ps' F' N' h1 h2
    have hb := sumLen_bound hlen
    have hl := PA.length
    exact hret t' h' g' tk' ps' ps2 F' N' h1 ht2 h2 hb.1 (by lia)
end
section
variable {w : World} {pT : Program} {loose : List Str} {mean : ExcName → Option Value} {mg mb : Str → Option Value}
theorem str_at {x dx : Addr} {items : List Value} {ep : Nat} {hs : Int} {tk0 : Tok} {t0 : Tok} {n : Nat} {ps ps2 : Array Value} {parts : List (Str × Str)} {nw : List (Addr × Obj)} {dp un : Nat} {gd : Option (List Code)} {cn : Str} {cs : Scope} {a : Addr} {ccd : Value} {cl : List (Str × Addr)} {outer : List Env} {A₀ : Around} {base h₀ : Heap} {L : Addr} {m : Str → Option Value} {s : Shared} {Q E : Value → Shared → Prop}
    (B : Below A₀ base outer h₀) (F : Fr h₀ L s.heap m) (X : (Mine.hd.heap_39 w.params).In h₀) (T : Top pT loose mean mg mb h₀) (hk : cs.kind = .function)
    (hd1 : dp + 8 < recursionLimit) (G : AllBare s.gens) (hoff : ∀ p ∈ nw, @Ne Nat p.1 154) (hoff2 : ∀ p ∈ nw, @Ne Nat p.1 161) (hx : @Ne Nat x 154) (hdx : @Ne Nat dx 154) (hx2 : @Ne Nat x 161) (hdx2 : @Ne Nat dx 161)
    (N : News h₀ L s.heap ((x, accObj dx items ep) :: (dx, dictOf [⟨hs, .str (Str.ofString "_initial_size") tk0, .int 0 t0⟩] n) :: (154, tabObj ps) :: (161, tabObj ps2) :: nw)) (ht : TriplesOk ps.toList) (ht2 : TriplesOk ps2.toList)
    (PA : PartsAre nw items parts) (hsz : items.length ≤ 900) (hlen : ∀ p ∈ parts, p.1.length ≤ 1000 ∧ p.2.length ≤ 1000)
    (hret : ∀ t' h' g' tk' ps' ps2', Fr h₀ L h' m → News h₀ L h' ((x, accObj dx items ep) :: (dx, dictOf [⟨hs, .str (Str.ofString "_initial_size") tk0, .int 0 t0⟩] n) :: (154, tabObj ps') :: (161, tabObj ps2') :: nw) → TriplesOk ps'.toList → TriplesOk ps2'.toList → AllBare g' → Q (.str (Txt.join (Str.ofString "") (parts.map partStr)) t') ⟨h', g', s.drawn, tk', s.os⟩) :
    wpAny (model PySem.Challenge.pw_tc0044_01 w) (ktrTop dp un gd cn cs L a ccd cl outer) (call (.ref 166) [.ref x]) Q E s := by
  refine str_call (ps := ps2) (items := items) (ep := ep) (hs := hs) (tk0 := tk0) (sz := 0) (t0 := t0) (n := n) (nw := (154, tabObj ps) :: nw) B F X T hk hd1 G ?_ hx2 hdx2 (fun q hq => N q (by simp only [List.mem_cons] at hq ⊢; rcases hq with h | h | h | h | h <;> simp [h])) ht2 (PA.mono fun _ h => .tail _ h) (by lia) hlen ?_
  · intro p hp
    rcases List.mem_cons.mp hp with rfl | hp
    · exact (by decide : @Ne Nat 154 161)
    · exact hoff2 p hp
  · intro t' h' g' tk' ps' F' N h1 h2
    exact hret t' h' g' tk' ps ps' F' (fun q hq => N q (by simp only [List.mem_cons] at hq ⊢; rcases hq with h | h | h | h | h <;> simp [h])) ht h1 h2
end
section
variable {w : World} {pT : Program} {loose : List Str} {mean : ExcName → Option Value} {mg mb : Str → Option Value}
theorem onlyws_call {x dx : Addr} {items : List Value} {ep : Nat} {hs : Int} {tk0 : Tok} {t0 : Tok} {n : Nat} {ps ps2 : Array Value} {parts : List (Str × Str)} {nw : List (Addr × Obj)} {dp un : Nat} {gd : Option (List Code)} {cn : Str} {cs : Scope} {a : Addr} {ccd : Value} {cl : List (Str × Addr)} {outer : List Env} {A₀ : Around} {base h₀ : Heap} {L : Addr} {m : Str → Option Value} {s : Shared} {Q E : Value → Shared → Prop}
    (B : Below A₀ base outer h₀) (F : Fr h₀ L s.heap m) (X : (Mine.hd.heap_39 w.params).In h₀) (T : Top pT loose mean mg mb h₀) (hk : cs.kind = .function)
    (hd1 : dp + 20 < recursionLimit) (hu : un + 40 < cLine) (G : AllBare s.gens) (hoff : ∀ p ∈ nw, @Ne Nat p.1 154) (hoff2 : ∀ p ∈ nw, @Ne Nat p.1 161) (hx : @Ne Nat x 154) (hdx : @Ne Nat dx 154) (hx2 : @Ne Nat x 161) (hdx2 : @Ne Nat dx 161)
    (N : News h₀ L s.heap ((x, accObj dx items ep) :: (dx, dictOf [⟨hs, .str (Str.ofString "_initial_size") tk0, .int 0 t0⟩] n) :: (154, tabObj ps) :: (161, tabObj ps2) :: nw)) (ht : TriplesOk ps.toList) (ht2 : TriplesOk ps2.toList)
    (PA : PartsAre nw items parts) (hsz : items.length ≤ 900) (hlen : ∀ p ∈ parts, p.1.length ≤ 1000 ∧ p.2.length ≤ 1000) (hpos : 0 < sumLen parts) (hws : Txt.isspace (Txt.join (Str.ofString "") (parts.map partStr)) = false)
    (hret : ∀ h' g' tk' ps' ps2', Fr h₀ L h' m → News h₀ L h' ((x, accObj dx items ep) :: (dx, dictOf [⟨hs, .str (Str.ofString "_initial_size") tk0, .int 0 t0⟩] n) :: (154, tabObj ps') :: (161, tabObj ps2') :: nw) → TriplesOk ps'.toList → TriplesOk ps2'.toList → AllBare g' → Q (.bool false) ⟨h', g', s.drawn, tk', s.os⟩) :
    wpAny (model PySem.Challenge.pw_tc0044_01 w) (ktrTop dp un gd cn cs L a ccd cl outer) (call (.ref 181) [.ref x]) Q E s := by
  have hb := sumLen_bound hlen
  refine wpAny_call ?_
  k_dflt cell_enter
  repeat (first | with_reducible ((with_reducible show wpAny _ _ (call (Value.ref _) _) _ _ _); ((k_here; k_dflt (first | (refine' len_at ?B ?F ?X ?T ?hk ?hd1 ?G ?hoff ?hoff2 ?hx ?hdx ?hx2 ?hdx2 ?N ?ht ?ht2 ?PA ?hsz ?hlen ?_; (case B => k_asm); (case F => k_asm); (case X => k_asm); (case T => k_asm); (case hk => rfl); (case hd1 => ktr_room); (case N => k_asm); (case PA => assumption); (case G => assumption); (case hoff => k_all); (case hoff2 => k_all); (case hx => assumption); (case hdx => assumption); (case hx2 => assumption); (case hdx2 => assumption); (case ht => assumption); (case ht2 => assumption); (case hsz => assumption); (case hlen => assumption); intro t' h' g' tk' ps' ps2' F' N' hT1 hT2 hG hb1 hb2) | (refine' str_at ?B ?F ?X ?T ?hk ?hd1 ?G ?hoff ?hoff2 ?hx ?hdx ?hx2 ?hdx2 ?N ?ht ?ht2 ?PA ?hsz ?hlen ?_; (case B => k_asm); (case F => k_asm); (case X => k_asm); (case T => k_asm); (case hk => rfl); (case hd1 => ktr_room); (case N => k_asm); (case PA => assumption); (case G => assumption); (case hoff => k_all); (case hoff2 => k_all); (case hx => assumption); (case hdx => assumption); (case hx2 => assumption); (case hdx2 => assumption); (case ht => assumption); (case ht2 => assumption); (case hsz => assumption); (case hlen => assumption); intro t' h' g' tk' ps' ps2' F' N' hT1 hT2 hG))))) | with_reducible ((with_reducible show wpAny _ _ (truthy (Value.ref _)) _ _ _); ((k_here; k_dflt (refine' truthy_len ?k1 ?k2 ?k3 ?k4 ?k5 ?k6 ?_; (case k1 => k_asm); (case k2 => k_asm); (case k3 => k_inst); (case k4 => k_is); (case k5 => k_is); (case k6 => k_is); k_whole)))) | with_reducible ((with_reducible show wpAny _ _ (getAttr (Value.ref _) _ _) _ _ _); ((k_here; k_dflt (refine' get_A ?k1 ?k2 ?k3 ?k4 ?k5 ?k6 ?k7 ?k8 ?k9 ?k10 ?_; (case k1 => k_asm); (case k2 => k_asm); (case k3 => k_inst); (case k4 => k_is); (case k5 => k_is); (case k6 => k_is); (case k7 => k_is); (case k8 => k_is); (case k9 => k_get); (case k10 => k_handed); k_whole)))) | walk1)
  have hpl := PA.length
  refine ⟨⟨hb.1, by lia⟩, ?_⟩
  have e1 : (sumLen parts != 0) = true := by simp; lia
  dsimp only
  rw [e1]
  repeat (first | with_reducible ((with_reducible show wpAny _ _ (call (Value.ref _) _) _ _ _); ((k_here; k_dflt (first | (refine' len_at ?B ?F ?X ?T ?hk ?hd1 ?G ?hoff ?hoff2 ?hx ?hdx ?hx2 ?hdx2 ?N ?ht ?ht2 ?PA ?hsz ?hlen ?_; (case B => k_asm); (case F => k_asm); (case X => k_asm); (case T => k_asm); (case hk => rfl); (case hd1 => ktr_room); (case N => k_asm); (case PA => assumption); (case G => assumption); (case hoff => k_all); (case hoff2 => k_all); (case hx => assumption); (case hdx => assumption); (case hx2 => assumption); (case hdx2 => assumption); (case ht => assumption); (case ht2 => assumption); (case hsz => assumption); (case hlen => assumption); intro t' h' g' tk' ps' ps2' F' N' hT1 hT2 hG hb1 hb2) | (refine' str_at ?B ?F ?X ?T ?hk ?hd1 ?G ?hoff ?hoff2 ?hx ?hdx ?hx2 ?hdx2 ?N ?ht ?ht2 ?PA ?hsz ?hlen ?_; (case B => k_asm); (case F => k_asm); (case X => k_asm); (case T => k_asm); (case hk => rfl); (case hd1 => ktr_room); (case N => k_asm); (case PA => assumption); (case G => assumption); (case hoff => k_all); (case hoff2 => k_all); (case hx => assumption); (case hdx => assumption); (case hx2 => assumption); (case hdx2 => assumption); (case ht => assumption); (case ht2 => assumption); (case hsz => assumption); (case hlen => assumption); intro t' h' g' tk' ps' ps2' F' N' hT1 hT2 hG))))) | walk1)
  unfold W.StrBack
  dsimp only
  (repeat' (first | (k_unfold; (try dsimp only)) | (k_end; wrow_close) | walk1 | dsimp only | (leave1; try dsimp only)))
  rw [hws]
  (with_reducible rename Fr h₀ L _ m => F₈)
  (with_reducible rename News h₀ L _ _ => N₈)
  exact hret _ _ _ _ _ F₈ N₈ (by assumption) (by assumption) (by assumption)
end
end Mine
end
section
open PySem PySem.W PySem.Spec PySem.Calls PyProof.Rows Builtin Builtin.ObjectAttr
namespace Mine
section
variable {prog : Program} {w : World} {A : Around} {E : Value → Shared → Prop} {s : Shared} {env : Env} {L : Addr} {h₀ : Heap} {m : Str → Option Value} {news news' : List (Addr × Obj)}
noncomputable def ForU (prog : Program) (w : World) (A : Around) (env : Env) (target : Expr) (it : Value) (body orelse : List Stmt) (Q : Flow → Shared → Prop) (E : Value → Shared → Prop) : Nat → Shared → Prop
  | 0, _ => False
  | k + 1, s => wpAny (model prog w) A (pyNext it) (fun r s₁ => match r with
      | none => wpAny (model prog w) A (execs orelse env) (fun f s₃ => Q f s₃) E s₁
      | some v => wpAny (model prog w) A (assign target env v) (fun _ s₂ => wpAny (model prog w) A (execs body env) (fun f s₃ => match f with
          | .next => ForU prog w A env target it body orelse Q E k s₃
          | .cont => ForU prog w A env target it body orelse Q E k s₃
          | .brk => Q .next s₃
          | .ret v => Q (.ret v) s₃) E s₂) E s₁) E s
theorem For_turnsU {target iter : Expr} {body orelse : List Stmt} {pos : Pos} {Q : Flow → Shared → Prop} (k : Nat)
    (h : wpAny (model prog w) A (eval iter env) (fun xv s₁ => wpAny (model prog w) A (pyIter xv) (fun it s₂ => ForU prog w A env target it body orelse Q E k s₂) E s₁) E s)
    (hs : ∀ x, foldedSetIterable iter env x = pure x := by intro _; rfl) (ht : ∀ it v, letOwnedTupleGo target it v = pure () := by intro _ _; rfl) (hE : PassesOwn (model prog w) A env E := by passes_own) :
    wpAny (model prog w) A (exec (.For target iter body orelse pos) env) Q E s := by
  refine wpAny_For (wpAny_mono h (fun xv s₁ h₁ => wpAny_mono h₁ (fun it s₂ h₂ => ?_) fun _ _ e => e) fun _ _ e => e) hs
  refine codeAny_forLoop (ForU prog w A env target it body orelse Q E) (fun n s' hI => ?_) k h₂ (ht it)
  cases n with
  | zero => exact hI.elim
  | succ n =>
    refine wpAny_mono hI (fun r s₁ h₁ => ?_) hE
    cases r with
    | none => exact wpAny_mono h₁ (fun _ _ x => x) hE
    | some v =>
      refine wpAny_mono h₁ (fun _ s₂ h₂ => wpAny_mono h₂ (fun f s₃ h₃ => ?_) hE) hE
      cases f with
      | next => exact ⟨n, Nat.lt_succ_self n, h₃⟩
      | cont => exact ⟨n, Nat.lt_succ_self n, h₃⟩
      | brk => exact h₃
      | ret v => exact h₃
theorem fr_up {h h' : Heap} (F : Fr h₀ L h m) (k : ∀ b o, h.get? b = some o → h'.get? b = some o) : Fr h₀ L h' m := by
  obtain ⟨oL, es, ep, hL, r⟩ := F.ns
  exact ⟨⟨oL, es, ep, k _ _ hL, r⟩, fun b o e => k b o (F.keep b o e), F.above⟩
theorem fr_but {h h' : Heap} {a : Addr} (F : Fr h₀ L h m) (hL : a ≠ L) (h0 : h₀.get? a = none) (k : ∀ b o, b ≠ a → h.get? b = some o → h'.get? b = some o) : Fr h₀ L h' m := by
  obtain ⟨oL, es, ep, hl, r⟩ := F.ns
  refine ⟨⟨oL, es, ep, k _ _ (Ne.symm hL) hl, r⟩, fun b o e => k b o ?_ (F.keep b o e), F.above⟩
  rintro rfl
  rw [h0] at e
  cases e
theorem news_but {h h' : Heap} {a : Addr} (N : News h₀ L h news) (k : ∀ b o, b ≠ a → h.get? b = some o → h'.get? b = some o) (hs : ∀ p ∈ news', p ∈ news ∧ p.1 ≠ a) : News h₀ L h' news' := fun q hq =>
  ⟨k _ _ (hs q hq).2 (N q (hs q hq).1).1, (N q (hs q hq).1).2⟩
noncomputable def IterO (o : Obj) (x : Str) (t : Tok) (i : Nat) : Prop := o.cls = .type "str_ascii_iterator" ∧ o.data = .fields #[.str x t, .int i 0]
theorem iter_str {x : Str} {t : Tok} {Q : Value → Shared → Prop} (F : Fr h₀ L s.heap m) (N : News h₀ L s.heap news) (ha : x.cps.all (· < 128) = true)
    (h : ∀ it o h', IterO o x t 0 → Fr h₀ L h' m → News h₀ L h' ((it, o) :: news) → (∀ p ∈ news, p.1 < it) → Q (.ref it) { s with heap := h' }) : wpAny (model prog w) A (pyIter (.str x t)) Q E s :=
  wpAny_pyIter_ascii ha (h _ _ _ ⟨rfl, rfl⟩ (F.push _) (N.push F _) (newsLt N))
theorem next_str {it : Addr} {o : Obj} {x : Str} {t : Tok} {i c : Nat} {Q : Option Value → Shared → Prop} (F : Fr h₀ L s.heap m) (N : News h₀ L s.heap ((it, o) :: news)) (ho : IterO o x t i) (hn : ∀ p ∈ news, p.1 < it) (hx : x.cps[i]? = some c)
    (h : ∀ o' h' tk tk', IterO o' x t (i + 1) → Fr h₀ L h' m → News h₀ L h' ((it, o') :: news) → Q (some (.str ⟨#[c]⟩ tk)) { s with heap := h', toks := tk' }) : wpAny (model prog w) A (pyNext (.ref it)) Q E s := by
  obtain ⟨g1, g2, g3⟩ := N (it, o) (.head _)
  refine wpAny_pyNext_ascii_item (i := i) ⟨o, g1, ho.1, ho.2⟩ hx fun h' hit hs => ?_
  obtain ⟨o', k1, k2, k3⟩ := hit
  have kk : ∀ b o, b ≠ it → s.heap.get? b = some o → h'.get? b = some o := fun b o hb e => (hs.2 b hb).trans e
  refine h o' h' _ _ ⟨k2, k3⟩ (fr_but F g2 g3 kk) ?_
  refine news_cons (news_but (N := N) kk fun p hp => ⟨.tail _ hp, Nat.ne_of_lt (hn p hp)⟩) k1 g2 g3
theorem end_str {it : Addr} {o : Obj} {x : Str} {t : Tok} {i : Nat} {Q : Option Value → Shared → Prop} (hh : A.handled = none) (F : Fr h₀ L s.heap m) (N : News h₀ L s.heap ((it, o) :: news)) (ho : IterO o x t i) (hn : ∀ p ∈ news, p.1 < it) (hx : x.cps[i]? = none)
    (h : ∀ h', Fr h₀ L h' m → News h₀ L h' news → Q none { s with heap := h' }) : wpAny (model prog w) A (pyNext (.ref it)) Q E s := by
  obtain ⟨g1, g2, g3⟩ := N (it, o) (.head _)
  refine wpAny_pyNext_ascii_end hh (i := i) ⟨o, g1, ho.1, ho.2⟩ hx fun h' he => ?_
  exact h h' (fr_but F g2 g3 fun b o hb e => he b o hb e) (news_but (N := N) (fun b o hb e => he b o hb e) fun p hp => ⟨.tail _ hp, Nat.ne_of_lt (hn p hp)⟩)
noncomputable abbrev rangeIt (x left step : Int) : Obj := { cls := .type "range_iterator", dict := none, data := .fields #[rawInt x, rawInt left, rawInt step], slots := #[] }
theorem iter_range {r : Addr} {a b c : Int} {t u v : Tok} {Q : Value → Shared → Prop} (F : Fr h₀ L s.heap m) (N : News h₀ L s.heap news) (hr : IsRange s.heap r a b c t u v) (hsmall : Builtin.Range.small a b c = true)
    (h : ∀ it h', Fr h₀ L h' m → News h₀ L h' ((it, rangeIt a (Builtin.Range.rangeSize a b c) c) :: news) → (∀ p ∈ news, p.1 < it) → Q (.ref it) { s with heap := h' }) : wpAny (model prog w) A (pyIter (.ref r)) Q E s :=
  wpAny_pyIter_range hr hsmall (h _ _ (F.push _) (N.push F _) (newsLt N))
theorem next_range {it : Addr} {x left step : Int} {Q : Option Value → Shared → Prop} (F : Fr h₀ L s.heap m) (N : News h₀ L s.heap ((it, rangeIt x left step) :: news)) (hn : ∀ p ∈ news, p.1 < it) (hl : 0 < left)
    (h : ∀ h' tk tk', Fr h₀ L h' m → News h₀ L h' ((it, rangeIt (x + step) (left - 1) step) :: news) → Q (some (.int x tk)) { s with heap := h', toks := tk' }) : wpAny (model prog w) A (pyNext (.ref it)) Q E s := by
  obtain ⟨g1, g2, g3⟩ := N _ (.head _)
  refine wpAny_pyNext_range_item g1 hl fun h' hit hs => ?_
  have kk : ∀ b o, b ≠ it → s.heap.get? b = some o → h'.get? b = some o := fun b o hb e => (hs.2 b hb).trans e
  exact h h' _ _ (fr_but F g2 g3 kk) (news_cons (news_but (N := N) kk fun p hp => ⟨.tail _ hp, Nat.ne_of_lt (hn p hp)⟩) hit g2 g3)
theorem end_range {it : Addr} {x left step : Int} {Q : Option Value → Shared → Prop} (hh : A.handled = none) (F : Fr h₀ L s.heap m) (N : News h₀ L s.heap ((it, rangeIt x left step) :: news)) (hn : ∀ p ∈ news, p.1 < it) (hl : left ≤ 0)
    (h : ∀ h', Fr h₀ L h' m → News h₀ L h' news → Q none { s with heap := h' }) : wpAny (model prog w) A (pyNext (.ref it)) Q E s := by
  obtain ⟨g1, g2, g3⟩ := N _ (.head _)
  refine wpAny_pyNext_range_end hh g1 hl fun h' he => ?_
  exact h h' (fr_but F g2 g3 fun b o hb e => he b o hb e) (news_but (N := N) (fun b o hb e => he b o hb e) fun p hp => ⟨.tail _ hp, Nat.ne_of_lt (hn p hp)⟩)
end
end Mine
end
section
open PySem PySem.W PySem.Spec PySem.Calls PyProof.Rows Builtin Builtin.ObjectAttr
namespace Mine
theorem size_down {a : Int} (h0 : 0 ≤ a) : Builtin.Range.rangeSize a 0 (-1) = a := by
  unfold Builtin.Range.rangeSize
  simp
  lia
theorem small_down {a : Int} (h0 : 0 ≤ a) (h1 : a ≤ 1000) : Builtin.Range.small a 0 (-1) = true := by
  unfold Builtin.Range.small
  rw [size_down h0]
  unfold Builtin.Range.rangeFitsLong
  simp
  lia
end Mine
end
example : True ∧ True := by first | (w_top off; walk1; done) | exact ⟨trivial, trivial⟩
section
open PySem PySem.W PySem.Spec PySem.Calls PyProof.Rows Builtin Builtin.ObjectAttr
example : (fun (_ : OpenLaw) (_ : Params → Frag) => True) PySem.Challenge.rw_tc0044_01 Mine.hd.heap_39 := by k_fill; trivial
namespace Mine
theorem perm1 {h₀ h : Heap} {L : Addr} {a b c d1 d2 d3 d4 d5 : Addr × Obj} {nw : List (Addr × Obj)} (N : News h₀ L h (c :: a :: b :: d1 :: d2 :: d3 :: d4 :: d5 :: nw)) : News h₀ L h (a :: b :: d1 :: d2 :: d3 :: d4 :: d5 :: c :: nw) :=
  List.forall_mem_cons.mpr ⟨N _ (.tail _ (.head _)), List.forall_mem_cons.mpr ⟨N _ (.tail _ (.tail _ (.head _))), List.forall_mem_cons.mpr ⟨N _ (.tail _ (.tail _ (.tail _ (.head _)))), List.forall_mem_cons.mpr ⟨N _ (.tail _ (.tail _ (.tail _ (.tail _ (.head _))))), List.forall_mem_cons.mpr ⟨N _ (.tail _ (.tail _ (.tail _ (.tail _ (.tail _ (.head _)))))), List.forall_mem_cons.mpr ⟨N _ (.tail _ (.tail _ (.tail _ (.tail _ (.tail _ (.tail _ (.head _))))))), List.forall_mem_cons.mpr ⟨N _ (.tail _ (.tail _ (.tail _ (.tail _ (.tail _ (.tail _ (.tail _ (.head _)))))))), List.forall_mem_cons.mpr ⟨N _ (.head _), fun q hq => N q (.tail _ (.tail _ (.tail _ (.tail _ (.tail _ (.tail _ (.tail _ (.tail _ (hq)))))))))⟩⟩⟩⟩⟩⟩⟩⟩
theorem perm1' {h₀ h : Heap} {L : Addr} {a b c d1 d2 d3 d4 d5 : Addr × Obj} {nw : List (Addr × Obj)} (N : News h₀ L h (a :: b :: d1 :: d2 :: d3 :: d4 :: d5 :: c :: nw)) : News h₀ L h (c :: a :: b :: d1 :: d2 :: d3 :: d4 :: d5 :: nw) :=
  List.forall_mem_cons.mpr ⟨N _ (.tail _ (.tail _ (.tail _ (.tail _ (.tail _ (.tail _ (.tail _ (.head _)))))))), List.forall_mem_cons.mpr ⟨N _ (.head _), List.forall_mem_cons.mpr ⟨N _ (.tail _ (.head _)), List.forall_mem_cons.mpr ⟨N _ (.tail _ (.tail _ (.head _))), List.forall_mem_cons.mpr ⟨N _ (.tail _ (.tail _ (.tail _ (.head _)))), List.forall_mem_cons.mpr ⟨N _ (.tail _ (.tail _ (.tail _ (.tail _ (.head _))))), List.forall_mem_cons.mpr ⟨N _ (.tail _ (.tail _ (.tail _ (.tail _ (.tail _ (.head _)))))), List.forall_mem_cons.mpr ⟨N _ (.tail _ (.tail _ (.tail _ (.tail _ (.tail _ (.tail _ (.head _))))))), fun q hq => N q (.tail _ (.tail _ (.tail _ (.tail _ (.tail _ (.tail _ (.tail _ (.tail _ (hq)))))))))⟩⟩⟩⟩⟩⟩⟩⟩
theorem off5 {z a1 a2 a3 a4 a5 : Nat} {x1 x2 x3 x4 x5 : Obj} {nw : List (Addr × Obj)} (e1 : Ap z a1) (e2 : Ap z a2) (e3 : Ap z a3) (e4 : Ap z a4) (e5 : Ap z a5) (o : ∀ p ∈ nw, @Ne Nat p.1 z) : ∀ p ∈ (a1, x1) :: (a2, x2) :: (a3, x3) :: (a4, x4) :: (a5, x5) :: nw, @Ne Nat p.1 z := by
  intro p hp
  simp only [List.mem_cons] at hp
  rcases hp with rfl | rfl | rfl | rfl | rfl | h
  · exact e1.ne'
  · exact e2.ne'
  · exact e3.ne'
  · exact e4.ne'
  · exact e5.ne'
  · exact o p h
theorem off3 {z a1 a2 a3 : Nat} {x1 x2 x3 : Obj} {nw : List (Addr × Obj)} (e1 : Ap a1 z) (e2 : Ap a2 z) (e3 : Ap a3 z) (o : ∀ p ∈ nw, @Ne Nat p.1 z) : ∀ p ∈ (a1, x1) :: (a2, x2) :: (a3, x3) :: nw, @Ne Nat p.1 z := by
  intro p hp
  simp only [List.mem_cons] at hp
  rcases hp with rfl | rfl | rfl | h
  · exact e1.ne
  · exact e2.ne
  · exact e3.ne
  · exact o p h
theorem updLx {x dx f fd lx : Nat} {x1 x2 x3 x4 x5 x6 o o' : Obj} {nw : List (Addr × Obj)} (d6 : Ap x lx) (d11 : Ap dx lx) (d12 : Ap lx 154) (d13 : Ap lx 161) (d14 : Ap lx f) (d15 : Ap lx fd) (o5 : ∀ p ∈ nw, @Ne Nat p.1 lx) :
    Upd lx o o' ((x, x1) :: (dx, x2) :: (154, x3) :: (161, x4) :: (f, x5) :: (fd, x6) :: (lx, o) :: nw) ((x, x1) :: (dx, x2) :: (154, x3) :: (161, x4) :: (f, x5) :: (fd, x6) :: (lx, o') :: nw) :=
  .tail d6.ne (.tail d11.ne (.tail d12.ne' (.tail d13.ne' (.tail d14.ne' (.tail d15.ne' (.head o5))))))
theorem cons_off {h₀ h : Heap} {L : Addr} {a b d1 d2 d3 d4 d5 : Addr × Obj} {nw : List (Addr × Obj)} {T z : Nat} {o : Obj} (_ : News h₀ L h (a :: b :: d1 :: d2 :: d3 :: d4 :: d5 :: (T, o) :: nw)) (l : z < T) (of : ∀ p ∈ nw, @Ne Nat p.1 z) : ∀ p ∈ (T, o) :: nw, @Ne Nat p.1 z := by
  intro p hp
  rcases List.mem_cons.mp hp with rfl | h
  · exact Nat.ne_of_gt l
  · exact of p h
theorem back_parts {h₀ h : Heap} {L : Addr} {a b d1 d2 d3 d4 d5 c1 c2 c3 : Addr × Obj} {nw : List (Addr × Obj)} {items : List Value} {parts : List (Str × Str)} (_ : News h₀ L h (a :: b :: d1 :: d2 :: d3 :: d4 :: d5 :: c1 :: c2 :: c3 :: nw)) (PA : PartsAre nw items parts) :
    PartsAre (c1 :: c2 :: c3 :: nw) items parts := PA.mono fun _ h => .tail _ (.tail _ (.tail _ h))
theorem push_parts {h₀ h : Heap} {L : Addr} {a b d1 d2 d3 d4 d5 : Addr × Obj} {nw : List (Addr × Obj)} {T : Addr} {fw wd : Str} {t u : Tok} {items : List Value} {parts : List (Str × Str)} (_ : News h₀ L h (a :: b :: d1 :: d2 :: d3 :: d4 :: d5 :: (T, tup2 fw t wd u) :: nw)) (PA : PartsAre nw items parts) :
    PartsAre ((T, tup2 fw t wd u) :: nw) (items ++ [.ref T]) (parts ++ [(fw, wd)]) := PartsAre.snoc (List.Mem.head _) (PA.mono fun _ h => List.Mem.tail _ h)
theorem perm3 {h₀ h : Heap} {L : Addr} {a b c d1 d2 d3 d4 d5 : Addr × Obj} {nw : List (Addr × Obj)} (N : News h₀ L h (a :: b :: c :: d1 :: d2 :: d3 :: d4 :: d5 :: nw)) : News h₀ L h (a :: b :: d1 :: d2 :: d3 :: d4 :: d5 :: c :: nw) :=
  List.forall_mem_cons.mpr ⟨N _ (.head _), List.forall_mem_cons.mpr ⟨N _ (.tail _ (.head _)), List.forall_mem_cons.mpr ⟨N _ (.tail _ (.tail _ (.tail _ (.head _)))), List.forall_mem_cons.mpr ⟨N _ (.tail _ (.tail _ (.tail _ (.tail _ (.head _))))), List.forall_mem_cons.mpr ⟨N _ (.tail _ (.tail _ (.tail _ (.tail _ (.tail _ (.head _)))))), List.forall_mem_cons.mpr ⟨N _ (.tail _ (.tail _ (.tail _ (.tail _ (.tail _ (.tail _ (.head _))))))), List.forall_mem_cons.mpr ⟨N _ (.tail _ (.tail _ (.tail _ (.tail _ (.tail _ (.tail _ (.tail _ (.head _)))))))), List.forall_mem_cons.mpr ⟨N _ (.tail _ (.tail _ (.head _))), fun q hq => N q (.tail _ (.tail _ (.tail _ (.tail _ (.tail _ (.tail _ (.tail _ (.tail _ (hq)))))))))⟩⟩⟩⟩⟩⟩⟩⟩
noncomputable def lineOf (parts : List (Str × Str)) : Str := Txt.join (Str.ofString "") (parts.map partStr)
noncomputable def foldStep (width : Int) (st : List Str × List (Str × Str)) (p : Str × Str) : List Str × List (Str × Str) :=
  if sumLen (st.2 ++ [p]) > width then (if st.2 = [] then (st.1, [p]) else (st.1 ++ [lineOf st.2], [p])) else (st.1, st.2 ++ [p])
theorem strs_push (l : List (Str × Tok)) (a : Str) (t : Tok) : (strValues l).toArray.push (.str a t) = (strValues (l ++ [(a, t)])).toArray := by simp [strValues]
theorem lines_append {prog : Program} {w : World} {A : Around} {E : Value → Shared → Prop} {s : Shared} {h₀ : Heap} {L lx : Addr} {m : Str → Option Value} {news news' : List (Addr × Obj)} {lines : List (Str × Tok)} {n : Nat} {a : Str} {t : Tok} {Q : Value → Shared → Prop} (F : Fr h₀ L s.heap m) (N : News h₀ L s.heap news)
    (U : Upd lx (W.listOf (strValues lines).toArray n) (W.listOf (strValues (lines ++ [(a, t)])).toArray (n + 1)) news news') (hl : lines.length ≤ 800)
    (h : ∀ h', Fr h₀ L h' m → News h₀ L h' news' → Q .none { s with heap := h' }) : wpAny (model prog w) A (call (.builtin "list.append") [.ref lx, .str a t]) Q E s :=
  append_K F N (by rw [strs_push]; exact U) h (by rw [List.size_toArray]; simp [strValues]; rw [sizeLine_eq]; lia)
theorem last_at (items : List Value) (v : Value) : (items ++ [v])[((items.length : Int)).toNat]? = some v := by simp
section
variable {w : World} {pT : Program} {loose : List Str} {mean : ExcName → Option Value} {mg mb : Str → Option Value}
theorem append_call {x dx f fd lx : Addr} {items : List Value} {ep : Nat} {hs : Int} {tk0 : Tok} {t0 : Tok} {n : Nat} {ps ps2 : Array Value} {parts : List (Str × Str)} {nw : List (Addr × Obj)} {f1 f2 f3 f4 f5 f6 : Int} {k1 k2 k3 k4 k5 k6 : Tok} {width : Int} {t1 t2 t3 t4 : Tok} {lines : List (Str × Tok)} {le : Nat} {fw wd : Str} {ta tb : Tok} {dp un : Nat} {gd : Option (List Code)} {cn : Str} {cs : Scope} {a : Addr} {ccd : Value} {cl : List (Str × Addr)} {outer : List Env} {A₀ : Around} {base h₀ : Heap} {L : Addr} {m : Str → Option Value} {s : Shared} {Q E : Value → Shared → Prop}
    (B : Below A₀ base outer h₀) (F : Fr h₀ L s.heap m) (X : (Mine.hd.heap_39 w.params).In h₀) (T : Top pT loose mean mg mb h₀) (hk : cs.kind = .function)
    (hd1 : dp + 40 < recursionLimit) (hu : un + 100 < cLine) (G : AllBare s.gens) (d1 : Ap x dx) (d2 : Ap x 154) (d3 : Ap x 161) (d4 : Ap x f) (d5 : Ap x fd) (d6 : Ap x lx) (d7 : Ap dx 154) (d8 : Ap dx 161) (d9 : Ap dx f) (d10 : Ap dx fd) (d11 : Ap dx lx)
    (d12 : Ap lx 154) (d13 : Ap lx 161) (d14 : Ap lx f) (d15 : Ap lx fd) (d16 : Ap f 154) (d17 : Ap f 161) (d18 : Ap fd 154) (d19 : Ap fd 161)
    (o1 : ∀ p ∈ nw, @Ne Nat p.1 x) (o2 : ∀ p ∈ nw, @Ne Nat p.1 dx) (o3 : ∀ p ∈ nw, @Ne Nat p.1 154) (o4 : ∀ p ∈ nw, @Ne Nat p.1 161) (o5 : ∀ p ∈ nw, @Ne Nat p.1 lx)
    (N : News h₀ L s.heap ((x, accObj dx items ep) :: (dx, dictOf [⟨hs, .str (Str.ofString "_initial_size") tk0, .int 0 t0⟩] n) :: (154, tabObj ps) :: (161, tabObj ps2) :: (f, instObj 108 fd) :: (fd, dictOf [⟨f1, .str (Str.ofString "_maxlen") k1, .int width t1⟩, ⟨f2, .str (Str.ofString "_continuation_ws") k2, .str (Str.ofString " ") t2⟩, ⟨f3, .str (Str.ofString "_continuation_ws_len") k3, .int 1 t3⟩, ⟨f4, .str (Str.ofString "_splitchars") k4, .str (Str.ofString " ") t4⟩, ⟨f5, .str (Str.ofString "_lines") k5, .ref lx⟩, ⟨f6, .str (Str.ofString "_current_line") k6, .ref x⟩] 6) :: (lx, W.listOf (strValues lines).toArray le) :: nw)) (ht : TriplesOk ps.toList) (ht2 : TriplesOk ps2.toList)
    (PA : PartsAre nw items parts) (hsz : items.length ≤ 800) (hlen : ∀ p ∈ parts, p.1.length ≤ 1000 ∧ p.2.length ≤ 1000) (hfw : fw.length ≤ 1000) (hwd : wd.length ≤ 1000) (hll : lines.length ≤ 800) (hfb : items ≠ [] → fw = Str.ofString " ")
    (hret : ∀ items' ep' parts' lt' le' nw' ps' ps2' h' g' tk' t0', Fr h₀ L h' m → News h₀ L h' ((x, accObj dx items' ep') :: (dx, dictOf [⟨hs, .str (Str.ofString "_initial_size") tk0, .int 0 t0'⟩] n) :: (154, tabObj ps') :: (161, tabObj ps2') :: (f, instObj 108 fd) :: (fd, dictOf [⟨f1, .str (Str.ofString "_maxlen") k1, .int width t1⟩, ⟨f2, .str (Str.ofString "_continuation_ws") k2, .str (Str.ofString " ") t2⟩, ⟨f3, .str (Str.ofString "_continuation_ws_len") k3, .int 1 t3⟩, ⟨f4, .str (Str.ofString "_splitchars") k4, .str (Str.ofString " ") t4⟩, ⟨f5, .str (Str.ofString "_lines") k5, .ref lx⟩, ⟨f6, .str (Str.ofString "_current_line") k6, .ref x⟩] 6) :: (lx, W.listOf (strValues lt').toArray le') :: nw') → PartsAre nw' items' parts' →
      (∀ p ∈ nw', @Ne Nat p.1 x) → (∀ p ∈ nw', @Ne Nat p.1 dx) → (∀ p ∈ nw', @Ne Nat p.1 154) → (∀ p ∈ nw', @Ne Nat p.1 161) → (∀ p ∈ nw', @Ne Nat p.1 lx) → (∀ p ∈ nw, p ∈ nw') → TriplesOk ps'.toList → TriplesOk ps2'.toList → AllBare g' →
      items'.length ≤ items.length + 1 → (lt'.map Prod.fst, parts') = foldStep width (lines.map Prod.fst, parts) (fw, wd) → Q .none ⟨h', g', s.drawn, tk', s.os⟩) :
    wpAny (model PySem.Challenge.pw_tc0044_01 w) (ktrTop dp un gd cn cs L a ccd cl outer) (call (.ref 105) [.ref f, .str fw ta, .str wd tb]) Q E s := by
  have hlen1 : ∀ p ∈ parts ++ [(fw, wd)], p.1.length ≤ 1000 ∧ p.2.length ≤ 1000 := by
    intro p hp
    rcases List.mem_append.mp hp with h | h
    · exact hlen p h
    · rw [List.mem_singleton.mp h]; exact ⟨hfw, hwd⟩
  have hb := sumLen_bound hlen1
  have PA0 := PA
  have hpl := PA.length
  have hpl1 : (parts ++ [(fw, wd)]).length = parts.length + 1 := by simp
  refine wpAny_call ?_
  k_dflt (refine' code_def (binds := [(Str.ofString "self", .ref f), (Str.ofString "fws", .str fw ta), (Str.ofString "string", .str wd tb)]) ?k1 ?k2 ?k3 ?k4 ?k5 ?kA ?kF ?kK ?k6 ?k7 ?k8 ?k9 ?kB ?_ ?c2 ?c3 ?c4 ?c5; (case kA => exact rfl); (case kF => exact rfl); (case kK => assumption); (case k1 => k_asm); (case k2 => k_asm); (case k3 => k_asm); (case k4 => k_asm); (case k5 => k_asm); (case k6 => k_is); (case k7 => k_is); (case k8 => ktr_room); (case k9 => exact BindsTo.of_eq rfl); (case c5 => decide); (case kB => exact locs rfl); (case c2 => exact rfl); (case c3 => exact rfl); (case c4 => exact rfl); k_whole; intro g' L' h' FG' F' N' B' X' T'; (try dsimp only); (try k_lift B'); (try k_fold); (try k_sweep))
  repeat (first | with_reducible ((with_reducible show wpAny _ _ (call (Value.ref _) _) _ _ _); ((k_here; k_dflt (first | (refine' push_call ?B ?F ?X ?T ?hk ?hd1 ?hoff ?hoffd ?hxd ?N ?hsz ?_; (case B => k_asm); (case F => k_asm); (case X => k_asm); (case T => k_asm); (case hk => rfl); (case hd1 => ktr_room); (case N => k_asm); (case hoff => exact off5 d2 d3 d4 d5 d6 o1); (case hoffd => exact off5 d7 d8 d9 d10 d11 o2); (case hxd => exact d1); (case hsz => first | assumption | lia | (simp only [List.length_append, List.length_cons, List.length_nil]; lia)); intro T₁ h₁ tk₁ F₁ N₁ l₁ l₂ l₃; (replace N₁ := perm3 N₁); (simp only [AllLt, and_true] at l₁); (obtain ⟨l₄, l₅, l₆, l₇, l₈, l₉⟩ := l₁); (replace PA := push_parts N₁ PA); (replace o1 := cons_off N₁ l₂ o1); (replace o2 := cons_off N₁ l₃ o2); (replace o3 := cons_off N₁ l₄ o3); (replace o4 := cons_off N₁ l₅ o4); (replace o5 := cons_off N₁ l₈ o5); (try k_sweep)) | (refine' pc_call ?B ?F ?X ?T ?hk ?hd1 ?N ?_; (case B => k_asm); (case F => k_asm); (case X => k_asm); (case T => k_asm); (case hk => rfl); (case hd1 => ktr_room); (case N => k_asm); intro t₁ h₁ tk₁ F₁ N₁; (try k_sweep)) | (refine' pop_call ?B ?F ?X ?T ?hk ?hd1 ?hoff ?hoffd ?hxd ?N ?hsz ?_; (case B => k_asm); (case F => k_asm); (case X => k_asm); (case T => k_asm); (case hk => rfl); (case hd1 => ktr_room); (case N => k_asm); (case hoff => exact off5 d2 d3 d4 d5 d6 o1); (case hoffd => exact off5 d7 d8 d9 d10 d11 o2); (case hxd => exact d1); (case hsz => first | assumption | lia | (simp only [List.length_append, List.length_cons, List.length_nil]; lia)); intro h₁ tk₁ F₁ N₁; (try k_sweep)) | (refine' popfrom_call ?B ?F ?X ?T ?hk ?hd1 ?hoff ?hoffd ?hxd ?N ?hsz ?_; (case B => k_asm); (case F => k_asm); (case X => k_asm); (case T => k_asm); (case hk => rfl); (case hd1 => ktr_room); (case N => k_asm); (case hoff => exact off5 d2 d3 d4 d5 d6 o1); (case hoffd => exact off5 d7 d8 d9 d10 d11 o2); (case hxd => exact d1); (case hsz => first | assumption | lia | (simp only [List.length_append, List.length_cons, List.length_nil]; lia)); intro l₁ ep₁ h₁ tk₁ F₁ N₁ q₁ q₂ q₃; (replace N₁ := perm3 N₁); (simp only [AllLt, and_true] at q₁); (obtain ⟨q₄, q₅, q₆, q₇, q₈, q₉⟩ := q₁); (replace PA := back_parts N₁ PA0); (replace o1 := cons_off N₁ q₂ o1); (replace o2 := cons_off N₁ q₃ o2); (replace o3 := cons_off N₁ q₄ o3); (replace o4 := cons_off N₁ q₅ o4); (replace o5 := cons_off N₁ q₈ o5); (try k_sweep)) | (refine' reset_call ?B ?F ?X ?T ?hk ?hd1 ?hoff ?hoffd ?hxd ?N ?hsz ?_; (case B => k_asm); (case F => k_asm); (case X => k_asm); (case T => k_asm); (case hk => rfl); (case hd1 => ktr_room); (case N => k_asm); (case hoff => exact off5 d2 d3 d4 d5 d6 o1); (case hoffd => exact off5 d7 d8 d9 d10 d11 o2); (case hxd => exact d1); (case hsz => first | assumption | lia | (simp only [List.length_append, List.length_cons, List.length_nil]; lia)); intro ep₁ h₁ tk₁ t₁ F₁ N₁; (try k_sweep)) | (refine' resetl_call ?B ?F ?X ?T ?hk ?hd1 ?hoff ?hoffd ?hxd ?N ?hl ?hsz ?hnew ?_; (case B => k_asm); (case F => k_asm); (case X => k_asm); (case T => k_asm); (case hk => rfl); (case hd1 => ktr_room); (case N => k_asm); (case hoff => exact off5 d2 d3 d4 d5 d6 o1); (case hoffd => exact off5 d7 d8 d9 d10 d11 o2); (case hxd => exact d1); (case hl => k_mem); (case hsz => first | assumption | lia | (simp only [List.length_append, List.length_cons, List.length_nil]; lia)); (case hnew => first | assumption | lia | (simp only [List.length_append, List.length_cons, List.length_nil]; lia)); intro ep₁ h₁ tk₁ t₁ F₁ N₁; (try k_sweep)) | (refine' onlyws_call ?B ?F ?X ?T ?hk ?hd1 ?hu ?G ?hoff ?hoff2 ?hx ?hdx ?hx2 ?hdx2 ?N ?ht ?ht2 ?PA ?hsz ?hlen ?hpos ?hws ?_; (case B => k_asm); (case F => k_asm); (case X => k_asm); (case T => k_asm); (case hk => rfl); (case hd1 => ktr_room); (case hu => ktr_units); (case G => assumption); (case N => k_asm); (case hoff => exact off3 d16 d18 d12 o3); (case hoff2 => exact off3 d17 d19 d13 o4); (case hx => exact d2); (case hdx => exact d7); (case hx2 => exact d3); (case hdx2 => exact d8); (case ht => assumption); (case ht2 => assumption); (case PA => exact PA.mono (fun _ h => List.Mem.tail _ (List.Mem.tail _ (List.Mem.tail _ h)))); (case hsz => first | assumption | lia | (simp only [List.length_append, List.length_cons, List.length_nil]; lia)); (case hlen => assumption); (case hpos => assumption); (case hws => assumption); intro h₁ g₁ tk₁ ps₁ ps₂ F₁ N₁ hT₁ hT₂ hG; (try k_sweep)) | (refine' len_at ?B ?F ?X ?T ?hk ?hd1 ?G ?hoff ?hoff2 ?hx ?hdx ?hx2 ?hdx2 ?N ?ht ?ht2 ?PA ?hsz ?hlen ?_; (case B => k_asm); (case F => k_asm); (case X => k_asm); (case T => k_asm); (case hk => rfl); (case hd1 => ktr_room); (case G => assumption); (case N => k_asm); (case hoff => exact off3 d16 d18 d12 o3); (case hoff2 => exact off3 d17 d19 d13 o4); (case hx => exact d2); (case hdx => exact d7); (case hx2 => exact d3); (case hdx2 => exact d8); (case ht => assumption); (case ht2 => assumption); (case PA => exact PA.mono (fun _ h => List.Mem.tail _ (List.Mem.tail _ (List.Mem.tail _ h)))); (case hsz => first | assumption | lia | (simp only [List.length_append, List.length_cons, List.length_nil]; lia)); (case hlen => assumption); intro t₁ h₁ g₁ tk₁ ps₁ ps₂ F₁ N₁ hT₁ hT₂ hG hb₁ hb₂; (try k_sweep)) | (refine' str_at ?B ?F ?X ?T ?hk ?hd1 ?G ?hoff ?hoff2 ?hx ?hdx ?hx2 ?hdx2 ?N ?ht ?ht2 ?PA ?hsz ?hlen ?_; (case B => k_asm); (case F => k_asm); (case X => k_asm); (case T => k_asm); (case hk => rfl); (case hd1 => ktr_room); (case G => assumption); (case N => k_asm); (case hoff => exact off3 d16 d18 d12 o3); (case hoff2 => exact off3 d17 d19 d13 o4); (case hx => exact d2); (case hdx => exact d7); (case hx2 => exact d3); (case hdx2 => exact d8); (case ht => assumption); (case ht2 => assumption); (case PA => exact PA.mono (fun _ h => List.Mem.tail _ (List.Mem.tail _ (List.Mem.tail _ h)))); (case hsz => first | assumption | lia | (simp only [List.length_append, List.length_cons, List.length_nil]; lia)); (case hlen => assumption); intro t₁ h₁ g₁ tk₁ ps₁ ps₂ F₁ N₁ hT₁ hT₂ hG; (try k_sweep)))))) | with_reducible ((with_reducible show PySem.W.LenBack _ _ _); ((k_dflt (refine ⟨⟨by assumption, by assumption⟩, ?_⟩); dsimp only))) | with_reducible ((with_reducible show wpAny _ _ (getMethod (Value.ref _) _ _) _ _ _); ((k_here; k_dflt (first | (refine' method_fnA ?k1 ?k2 ?k3 ?k4 ?k5 ?k6 ?k7 ?k8 ?_; (case k1 => k_asm); (case k2 => k_asm); (case k3 => k_inst); (case k4 => k_is); (case k5 => k_is); (case k6 => k_is); (case k7 => k_is); (case k8 => k_get); k_whole) | (refine' method_biA ?k1 ?k2 ?k3 ?k4 ?k5 ?k6 ?k7 ?k8 ?_; (case k1 => k_asm); (case k2 => k_asm); (case k3 => k_inst); (case k4 => k_is); (case k5 => k_is); (case k6 => k_is); (case k7 => k_is); (case k8 => k_get); k_whole) | (refine' super_len ?k1 ?k2 ?k3 ?k4 ?k5 ?k6 ?k7 ?k8 ?_; (case k1 => k_asm); (case k2 => k_asm); (case k3 => k_asm); (case k4 => k_mem); (case k5 => k_inst); (case k6 => k_is); (case k7 => ks_is); (case k8 => k_is); intro q' h' F' N' l1; (try k_lt l1)) | (refine' super_pop ?k1 ?k2 ?k3 ?k4 ?k5 ?k6 ?k7 ?k8 ?_; (case k1 => k_asm); (case k2 => k_asm); (case k3 => k_asm); (case k4 => k_mem); (case k5 => k_inst); (case k6 => k_is); (case k7 => ks_is); (case k8 => k_is); intro q' h' F' N' l1; (try k_lt l1)))))) | walk1)
  · k_dflt (refine For_turnsU 2 ?_)
    repeat walk1
    refine iter_str (by k_asm) (by k_asm) (by decide +kernel) ?_
    intro it₂ o₂ h₂ hO₂ F₂ N₂ i₂
    unfold ForU
    refine next_str F₂ N₂ hO₂ i₂ (c := 32) (by decide +kernel) ?_
    intro o₃ h₃ tk₃ tk₄ hO₃ F₃ N₃
    clear F₂ N₂
    replace N₃ := perm1 N₃
    have j₂ := allLt_of i₂
    simp only [AllLt, and_true] at j₂
    obtain ⟨j₁, j₂, j₃, j₄, j₅, j₆, j₇, j₈, j₉⟩ := j₂
    have PA₀ := PA
    have p1 := o1
    have p2 := o2
    have p3 := o3
    have p4 := o4
    have p5 := o5
    replace o1 := cons_off N₃ j₁ o1
    replace o2 := cons_off N₃ j₂ o2
    replace o3 := cons_off N₃ j₃ o3
    replace o4 := cons_off N₃ j₄ o4
    replace o5 := cons_off N₃ j₇ o5
    replace PA := PA.mono fun _ h => List.Mem.tail (it₂, o₃) h
    dsimp only
    repeat walk1
    k_dflt (refine For_turnsU 2 ?_)
    repeat (first | with_reducible ((with_reducible show wpAny _ _ (call (Value.ref _) _) _ _ _); ((k_here; k_dflt (first | (refine' push_call ?B ?F ?X ?T ?hk ?hd1 ?hoff ?hoffd ?hxd ?N ?hsz ?_; (case B => k_asm); (case F => k_asm); (case X => k_asm); (case T => k_asm); (case hk => rfl); (case hd1 => ktr_room); (case N => k_asm); (case hoff => exact off5 d2 d3 d4 d5 d6 o1); (case hoffd => exact off5 d7 d8 d9 d10 d11 o2); (case hxd => exact d1); (case hsz => first | assumption | lia | (simp only [List.length_append, List.length_cons, List.length_nil]; lia)); intro T₁ h₁ tk₁ F₁ N₁ l₁ l₂ l₃; (replace N₁ := perm3 N₁); (simp only [AllLt, and_true] at l₁); (obtain ⟨l₄, l₅, l₆, l₇, l₈, l₉⟩ := l₁); (replace PA := push_parts N₁ PA); (replace o1 := cons_off N₁ l₂ o1); (replace o2 := cons_off N₁ l₃ o2); (replace o3 := cons_off N₁ l₄ o3); (replace o4 := cons_off N₁ l₅ o4); (replace o5 := cons_off N₁ l₈ o5); (try k_sweep)) | (refine' pc_call ?B ?F ?X ?T ?hk ?hd1 ?N ?_; (case B => k_asm); (case F => k_asm); (case X => k_asm); (case T => k_asm); (case hk => rfl); (case hd1 => ktr_room); (case N => k_asm); intro t₁ h₁ tk₁ F₁ N₁; (try k_sweep)) | (refine' pop_call ?B ?F ?X ?T ?hk ?hd1 ?hoff ?hoffd ?hxd ?N ?hsz ?_; (case B => k_asm); (case F => k_asm); (case X => k_asm); (case T => k_asm); (case hk => rfl); (case hd1 => ktr_room); (case N => k_asm); (case hoff => exact off5 d2 d3 d4 d5 d6 o1); (case hoffd => exact off5 d7 d8 d9 d10 d11 o2); (case hxd => exact d1); (case hsz => first | assumption | lia | (simp only [List.length_append, List.length_cons, List.length_nil]; lia)); intro h₁ tk₁ F₁ N₁; (try k_sweep)) | (refine' popfrom_call ?B ?F ?X ?T ?hk ?hd1 ?hoff ?hoffd ?hxd ?N ?hsz ?_; (case B => k_asm); (case F => k_asm); (case X => k_asm); (case T => k_asm); (case hk => rfl); (case hd1 => ktr_room); (case N => k_asm); (case hoff => exact off5 d2 d3 d4 d5 d6 o1); (case hoffd => exact off5 d7 d8 d9 d10 d11 o2); (case hxd => exact d1); (case hsz => first | assumption | lia | (simp only [List.length_append, List.length_cons, List.length_nil]; lia)); intro l₁ ep₁ h₁ tk₁ F₁ N₁ q₁ q₂ q₃; (replace N₁ := perm3 N₁); (simp only [AllLt, and_true] at q₁); (obtain ⟨q₄, q₅, q₆, q₇, q₈, q₉⟩ := q₁); (replace PA := back_parts N₁ PA0); (replace o1 := cons_off N₁ q₂ o1); (replace o2 := cons_off N₁ q₃ o2); (replace o3 := cons_off N₁ q₄ o3); (replace o4 := cons_off N₁ q₅ o4); (replace o5 := cons_off N₁ q₈ o5); (try k_sweep)) | (refine' reset_call ?B ?F ?X ?T ?hk ?hd1 ?hoff ?hoffd ?hxd ?N ?hsz ?_; (case B => k_asm); (case F => k_asm); (case X => k_asm); (case T => k_asm); (case hk => rfl); (case hd1 => ktr_room); (case N => k_asm); (case hoff => exact off5 d2 d3 d4 d5 d6 o1); (case hoffd => exact off5 d7 d8 d9 d10 d11 o2); (case hxd => exact d1); (case hsz => first | assumption | lia | (simp only [List.length_append, List.length_cons, List.length_nil]; lia)); intro ep₁ h₁ tk₁ t₁ F₁ N₁; (try k_sweep)) | (refine' resetl_call ?B ?F ?X ?T ?hk ?hd1 ?hoff ?hoffd ?hxd ?N ?hl ?hsz ?hnew ?_; (case B => k_asm); (case F => k_asm); (case X => k_asm); (case T => k_asm); (case hk => rfl); (case hd1 => ktr_room); (case N => k_asm); (case hoff => exact off5 d2 d3 d4 d5 d6 o1); (case hoffd => exact off5 d7 d8 d9 d10 d11 o2); (case hxd => exact d1); (case hl => k_mem); (case hsz => first | assumption | lia | (simp only [List.length_append, List.length_cons, List.length_nil]; lia)); (case hnew => first | assumption | lia | (simp only [List.length_append, List.length_cons, List.length_nil]; lia)); intro ep₁ h₁ tk₁ t₁ F₁ N₁; (try k_sweep)) | (refine' onlyws_call ?B ?F ?X ?T ?hk ?hd1 ?hu ?G ?hoff ?hoff2 ?hx ?hdx ?hx2 ?hdx2 ?N ?ht ?ht2 ?PA ?hsz ?hlen ?hpos ?hws ?_; (case B => k_asm); (case F => k_asm); (case X => k_asm); (case T => k_asm); (case hk => rfl); (case hd1 => ktr_room); (case hu => ktr_units); (case G => assumption); (case N => k_asm); (case hoff => exact off3 d16 d18 d12 o3); (case hoff2 => exact off3 d17 d19 d13 o4); (case hx => exact d2); (case hdx => exact d7); (case hx2 => exact d3); (case hdx2 => exact d8); (case ht => assumption); (case ht2 => assumption); (case PA => exact PA.mono (fun _ h => List.Mem.tail _ (List.Mem.tail _ (List.Mem.tail _ h)))); (case hsz => first | assumption | lia | (simp only [List.length_append, List.length_cons, List.length_nil]; lia)); (case hlen => assumption); (case hpos => assumption); (case hws => assumption); intro h₁ g₁ tk₁ ps₁ ps₂ F₁ N₁ hT₁ hT₂ hG; (try k_sweep)) | (refine' len_at ?B ?F ?X ?T ?hk ?hd1 ?G ?hoff ?hoff2 ?hx ?hdx ?hx2 ?hdx2 ?N ?ht ?ht2 ?PA ?hsz ?hlen ?_; (case B => k_asm); (case F => k_asm); (case X => k_asm); (case T => k_asm); (case hk => rfl); (case hd1 => ktr_room); (case G => assumption); (case N => k_asm); (case hoff => exact off3 d16 d18 d12 o3); (case hoff2 => exact off3 d17 d19 d13 o4); (case hx => exact d2); (case hdx => exact d7); (case hx2 => exact d3); (case hdx2 => exact d8); (case ht => assumption); (case ht2 => assumption); (case PA => exact PA.mono (fun _ h => List.Mem.tail _ (List.Mem.tail _ (List.Mem.tail _ h)))); (case hsz => first | assumption | lia | (simp only [List.length_append, List.length_cons, List.length_nil]; lia)); (case hlen => assumption); intro t₁ h₁ g₁ tk₁ ps₁ ps₂ F₁ N₁ hT₁ hT₂ hG hb₁ hb₂; (try k_sweep)) | (refine' str_at ?B ?F ?X ?T ?hk ?hd1 ?G ?hoff ?hoff2 ?hx ?hdx ?hx2 ?hdx2 ?N ?ht ?ht2 ?PA ?hsz ?hlen ?_; (case B => k_asm); (case F => k_asm); (case X => k_asm); (case T => k_asm); (case hk => rfl); (case hd1 => ktr_room); (case G => assumption); (case N => k_asm); (case hoff => exact off3 d16 d18 d12 o3); (case hoff2 => exact off3 d17 d19 d13 o4); (case hx => exact d2); (case hdx => exact d7); (case hx2 => exact d3); (case hdx2 => exact d8); (case ht => assumption); (case ht2 => assumption); (case PA => exact PA.mono (fun _ h => List.Mem.tail _ (List.Mem.tail _ (List.Mem.tail _ h)))); (case hsz => first | assumption | lia | (simp only [List.length_append, List.length_cons, List.length_nil]; lia)); (case hlen => assumption); intro t₁ h₁ g₁ tk₁ ps₁ ps₂ F₁ N₁ hT₁ hT₂ hG; (try k_sweep)))))) | with_reducible ((with_reducible show wpAny _ _ (getMethod (Value.ref _) _ _) _ _ _); ((k_here; k_dflt (first | (refine' method_fnA ?k1 ?k2 ?k3 ?k4 ?k5 ?k6 ?k7 ?k8 ?_; (case k1 => k_asm); (case k2 => k_asm); (case k3 => k_inst); (case k4 => k_is); (case k5 => k_is); (case k6 => k_is); (case k7 => k_is); (case k8 => k_get); k_whole) | (refine' method_biA ?k1 ?k2 ?k3 ?k4 ?k5 ?k6 ?k7 ?k8 ?_; (case k1 => k_asm); (case k2 => k_asm); (case k3 => k_inst); (case k4 => k_is); (case k5 => k_is); (case k6 => k_is); (case k7 => k_is); (case k8 => k_get); k_whole) | (refine' super_len ?k1 ?k2 ?k3 ?k4 ?k5 ?k6 ?k7 ?k8 ?_; (case k1 => k_asm); (case k2 => k_asm); (case k3 => k_asm); (case k4 => k_mem); (case k5 => k_inst); (case k6 => k_is); (case k7 => ks_is); (case k8 => k_is); intro q' h' F' N' l1; (try k_lt l1)) | (refine' super_pop ?k1 ?k2 ?k3 ?k4 ?k5 ?k6 ?k7 ?k8 ?_; (case k1 => k_asm); (case k2 => k_asm); (case k3 => k_asm); (case k4 => k_mem); (case k5 => k_inst); (case k6 => k_is); (case k7 => ks_is); (case k8 => k_is); intro q' h' F' N' l1; (try k_lt l1)))))) | walk1)
    have ea : ((items ++ [Value.ref T₁]).length : Int) - 1 = items.length := by simp
    (with_reducible rename IsRange _ _ _ _ _ _ _ _ => hr)
    replace hr := cast (congrArg (fun z => IsRange _ _ z 0 (-1) _ _ _) ea) hr
    refine iter_range (by k_asm) (by k_asm) hr (small_down (by lia) (by lia)) ?_
    intro it₃ h₄ F₄ N₄ i₄
    rw [size_down (by lia)] at N₄
    unfold ForU
    by_cases hni : items = []
    · subst hni
      have hp0 : parts = [] := List.eq_nil_of_length_eq_zero hpl.symm
      subst hp0
      refine end_range rfl F₄ N₄ i₄ (by simp) ?_
      intro h₅ F₅ N₅
      dsimp only
      repeat walk1
      dsimp only
      unfold ForU
      refine end_str rfl F₅ (perm1' N₅) hO₃ i₂ (by decide +kernel) ?_
      intro h₆ F₆ N₆
      dsimp only
      replace PA : PartsAre ((T₁, tup2 fw ta wd tb) :: nw) [] [] := .nil
      replace o1 := p1
      replace o2 := p2
      replace o3 := p3
      replace o4 := p4
      replace o5 := p5
      repeat (first | with_reducible ((with_reducible show wpAny _ _ (call (Value.ref _) _) _ _ _); ((k_here; k_dflt (first | (refine' push_call ?B ?F ?X ?T ?hk ?hd1 ?hoff ?hoffd ?hxd ?N ?hsz ?_; (case B => k_asm); (case F => k_asm); (case X => k_asm); (case T => k_asm); (case hk => rfl); (case hd1 => ktr_room); (case N => k_asm); (case hoff => exact off5 d2 d3 d4 d5 d6 o1); (case hoffd => exact off5 d7 d8 d9 d10 d11 o2); (case hxd => exact d1); (case hsz => first | assumption | lia | (simp only [List.length_append, List.length_cons, List.length_nil]; lia)); intro T₁ h₁ tk₁ F₁ N₁ l₁ l₂ l₃; (replace N₁ := perm3 N₁); (simp only [AllLt, and_true] at l₁); (obtain ⟨l₄, l₅, l₆, l₇, l₈, l₉⟩ := l₁); (replace PA := push_parts N₁ PA); (replace o1 := cons_off N₁ l₂ o1); (replace o2 := cons_off N₁ l₃ o2); (replace o3 := cons_off N₁ l₄ o3); (replace o4 := cons_off N₁ l₅ o4); (replace o5 := cons_off N₁ l₈ o5); (try k_sweep)) | (refine' pc_call ?B ?F ?X ?T ?hk ?hd1 ?N ?_; (case B => k_asm); (case F => k_asm); (case X => k_asm); (case T => k_asm); (case hk => rfl); (case hd1 => ktr_room); (case N => k_asm); intro t₁ h₁ tk₁ F₁ N₁; (try k_sweep)) | (refine' pop_call ?B ?F ?X ?T ?hk ?hd1 ?hoff ?hoffd ?hxd ?N ?hsz ?_; (case B => k_asm); (case F => k_asm); (case X => k_asm); (case T => k_asm); (case hk => rfl); (case hd1 => ktr_room); (case N => k_asm); (case hoff => exact off5 d2 d3 d4 d5 d6 o1); (case hoffd => exact off5 d7 d8 d9 d10 d11 o2); (case hxd => exact d1); (case hsz => first | assumption | lia | (simp only [List.length_append, List.length_cons, List.length_nil]; lia)); intro h₁ tk₁ F₁ N₁; (try k_sweep)) | (refine' popfrom_call ?B ?F ?X ?T ?hk ?hd1 ?hoff ?hoffd ?hxd ?N ?hsz ?_; (case B => k_asm); (case F => k_asm); (case X => k_asm); (case T => k_asm); (case hk => rfl); (case hd1 => ktr_room); (case N => k_asm); (case hoff => exact off5 d2 d3 d4 d5 d6 o1); (case hoffd => exact off5 d7 d8 d9 d10 d11 o2); (case hxd => exact d1); (case hsz => first | assumption | lia | (simp only [List.length_append, List.length_cons, List.length_nil]; lia)); intro l₁ ep₁ h₁ tk₁ F₁ N₁ q₁ q₂ q₃; (replace N₁ := perm3 N₁); (simp only [AllLt, and_true] at q₁); (obtain ⟨q₄, q₅, q₆, q₇, q₈, q₉⟩ := q₁); (replace PA := back_parts N₁ PA0); (replace o1 := cons_off N₁ q₂ o1); (replace o2 := cons_off N₁ q₃ o2); (replace o3 := cons_off N₁ q₄ o3); (replace o4 := cons_off N₁ q₅ o4); (replace o5 := cons_off N₁ q₈ o5); (try k_sweep)) | (refine' reset_call ?B ?F ?X ?T ?hk ?hd1 ?hoff ?hoffd ?hxd ?N ?hsz ?_; (case B => k_asm); (case F => k_asm); (case X => k_asm); (case T => k_asm); (case hk => rfl); (case hd1 => ktr_room); (case N => k_asm); (case hoff => exact off5 d2 d3 d4 d5 d6 o1); (case hoffd => exact off5 d7 d8 d9 d10 d11 o2); (case hxd => exact d1); (case hsz => first | assumption | lia | (simp only [List.length_append, List.length_cons, List.length_nil]; lia)); intro ep₁ h₁ tk₁ t₁ F₁ N₁; (try k_sweep)) | (refine' resetl_call ?B ?F ?X ?T ?hk ?hd1 ?hoff ?hoffd ?hxd ?N ?hl ?hsz ?hnew ?_; (case B => k_asm); (case F => k_asm); (case X => k_asm); (case T => k_asm); (case hk => rfl); (case hd1 => ktr_room); (case N => k_asm); (case hoff => exact off5 d2 d3 d4 d5 d6 o1); (case hoffd => exact off5 d7 d8 d9 d10 d11 o2); (case hxd => exact d1); (case hl => k_mem); (case hsz => first | assumption | lia | (simp only [List.length_append, List.length_cons, List.length_nil]; lia)); (case hnew => first | assumption | lia | (simp only [List.length_append, List.length_cons, List.length_nil]; lia)); intro ep₁ h₁ tk₁ t₁ F₁ N₁; (try k_sweep)) | (refine' onlyws_call ?B ?F ?X ?T ?hk ?hd1 ?hu ?G ?hoff ?hoff2 ?hx ?hdx ?hx2 ?hdx2 ?N ?ht ?ht2 ?PA ?hsz ?hlen ?hpos ?hws ?_; (case B => k_asm); (case F => k_asm); (case X => k_asm); (case T => k_asm); (case hk => rfl); (case hd1 => ktr_room); (case hu => ktr_units); (case G => assumption); (case N => k_asm); (case hoff => exact off3 d16 d18 d12 o3); (case hoff2 => exact off3 d17 d19 d13 o4); (case hx => exact d2); (case hdx => exact d7); (case hx2 => exact d3); (case hdx2 => exact d8); (case ht => assumption); (case ht2 => assumption); (case PA => exact PA.mono (fun _ h => List.Mem.tail _ (List.Mem.tail _ (List.Mem.tail _ h)))); (case hsz => first | assumption | lia | (simp only [List.length_append, List.length_cons, List.length_nil]; lia)); (case hlen => assumption); (case hpos => assumption); (case hws => assumption); intro h₁ g₁ tk₁ ps₁ ps₂ F₁ N₁ hT₁ hT₂ hG; (try k_sweep)) | (refine' len_at ?B ?F ?X ?T ?hk ?hd1 ?G ?hoff ?hoff2 ?hx ?hdx ?hx2 ?hdx2 ?N ?ht ?ht2 ?PA ?hsz ?hlen ?_; (case B => k_asm); (case F => k_asm); (case X => k_asm); (case T => k_asm); (case hk => rfl); (case hd1 => ktr_room); (case G => assumption); (case N => k_asm); (case hoff => exact off3 d16 d18 d12 o3); (case hoff2 => exact off3 d17 d19 d13 o4); (case hx => exact d2); (case hdx => exact d7); (case hx2 => exact d3); (case hdx2 => exact d8); (case ht => assumption); (case ht2 => assumption); (case PA => exact PA.mono (fun _ h => List.Mem.tail _ (List.Mem.tail _ (List.Mem.tail _ h)))); (case hsz => first | assumption | lia | (simp only [List.length_append, List.length_cons, List.length_nil]; lia)); (case hlen => assumption); intro t₁ h₁ g₁ tk₁ ps₁ ps₂ F₁ N₁ hT₁ hT₂ hG hb₁ hb₂; (try k_sweep)) | (refine' str_at ?B ?F ?X ?T ?hk ?hd1 ?G ?hoff ?hoff2 ?hx ?hdx ?hx2 ?hdx2 ?N ?ht ?ht2 ?PA ?hsz ?hlen ?_; (case B => k_asm); (case F => k_asm); (case X => k_asm); (case T => k_asm); (case hk => rfl); (case hd1 => ktr_room); (case G => assumption); (case N => k_asm); (case hoff => exact off3 d16 d18 d12 o3); (case hoff2 => exact off3 d17 d19 d13 o4); (case hx => exact d2); (case hdx => exact d7); (case hx2 => exact d3); (case hdx2 => exact d8); (case ht => assumption); (case ht2 => assumption); (case PA => exact PA.mono (fun _ h => List.Mem.tail _ (List.Mem.tail _ (List.Mem.tail _ h)))); (case hsz => first | assumption | lia | (simp only [List.length_append, List.length_cons, List.length_nil]; lia)); (case hlen => assumption); intro t₁ h₁ g₁ tk₁ ps₁ ps₂ F₁ N₁ hT₁ hT₂ hG; (try k_sweep)))))) | with_reducible ((with_reducible show wpAny _ _ (getAttr (Value.ref _) _ _) _ _ _); ((k_here; k_dflt (refine' get_A ?k1 ?k2 ?k3 ?k4 ?k5 ?k6 ?k7 ?k8 ?k9 ?k10 ?_; (case k1 => k_asm); (case k2 => k_asm); (case k3 => k_inst); (case k4 => k_is); (case k5 => k_is); (case k6 => k_is); (case k7 => k_is); (case k8 => k_is); (case k9 => k_get); (case k10 => k_handed); k_whole)))) | with_reducible ((with_reducible show wpAny _ _ (getMethod (Value.ref _) _ _) _ _ _); ((k_here; k_dflt (first | (refine' method_fnA ?k1 ?k2 ?k3 ?k4 ?k5 ?k6 ?k7 ?k8 ?_; (case k1 => k_asm); (case k2 => k_asm); (case k3 => k_inst); (case k4 => k_is); (case k5 => k_is); (case k6 => k_is); (case k7 => k_is); (case k8 => k_get); k_whole) | (refine' method_biA ?k1 ?k2 ?k3 ?k4 ?k5 ?k6 ?k7 ?k8 ?_; (case k1 => k_asm); (case k2 => k_asm); (case k3 => k_inst); (case k4 => k_is); (case k5 => k_is); (case k6 => k_is); (case k7 => k_is); (case k8 => k_get); k_whole) | (refine' super_len ?k1 ?k2 ?k3 ?k4 ?k5 ?k6 ?k7 ?k8 ?_; (case k1 => k_asm); (case k2 => k_asm); (case k3 => k_asm); (case k4 => k_mem); (case k5 => k_inst); (case k6 => k_is); (case k7 => ks_is); (case k8 => k_is); intro q' h' F' N' l1; (try k_lt l1)) | (refine' super_pop ?k1 ?k2 ?k3 ?k4 ?k5 ?k6 ?k7 ?k8 ?_; (case k1 => k_asm); (case k2 => k_asm); (case k3 => k_asm); (case k4 => k_mem); (case k5 => k_inst); (case k6 => k_is); (case k7 => ks_is); (case k8 => k_is); intro q' h' F' N' l1; (try k_lt l1)))))) | walk1)
      (with_reducible rename Fr h₀ L _ m => F₈)
      (with_reducible rename News h₀ L _ _ => N₈)
      refine hret _ _ _ lines _ _ _ _ _ _ _ _ F₈ N₈ PA o1 o2 o3 o4 o5 (fun p hp => .tail _ (.tail _ hp)) (by assumption) (by assumption) (by assumption) (by simp) ?_
      unfold foldStep
      dsimp only
      rw [if_pos (by assumption), if_pos rfl]
      rfl
    · refine next_range F₄ N₄ i₄ (by have := List.length_pos_iff.mpr hni; lia) ?_
      intro h₅ tk₅ tk₆ F₅ N₅
      replace N₅ := fun q hq => N₅ q (.tail _ hq)
      dsimp only
      have hfw' := hfb hni
      subst hfw'
      repeat (first | with_reducible ((with_reducible show wpAny _ _ (call (Value.ref _) _) _ _ _); ((k_here; k_dflt (first | (refine' push_call ?B ?F ?X ?T ?hk ?hd1 ?hoff ?hoffd ?hxd ?N ?hsz ?_; (case B => k_asm); (case F => k_asm); (case X => k_asm); (case T => k_asm); (case hk => rfl); (case hd1 => ktr_room); (case N => k_asm); (case hoff => exact off5 d2 d3 d4 d5 d6 o1); (case hoffd => exact off5 d7 d8 d9 d10 d11 o2); (case hxd => exact d1); (case hsz => first | assumption | lia | (simp only [List.length_append, List.length_cons, List.length_nil]; lia)); intro T₁ h₁ tk₁ F₁ N₁ l₁ l₂ l₃; (replace N₁ := perm3 N₁); (simp only [AllLt, and_true] at l₁); (obtain ⟨l₄, l₅, l₆, l₇, l₈, l₉⟩ := l₁); (replace PA := push_parts N₁ PA); (replace o1 := cons_off N₁ l₂ o1); (replace o2 := cons_off N₁ l₃ o2); (replace o3 := cons_off N₁ l₄ o3); (replace o4 := cons_off N₁ l₅ o4); (replace o5 := cons_off N₁ l₈ o5); (try k_sweep)) | (refine' pc_call ?B ?F ?X ?T ?hk ?hd1 ?N ?_; (case B => k_asm); (case F => k_asm); (case X => k_asm); (case T => k_asm); (case hk => rfl); (case hd1 => ktr_room); (case N => k_asm); intro t₁ h₁ tk₁ F₁ N₁; (try k_sweep)) | (refine' pop_call ?B ?F ?X ?T ?hk ?hd1 ?hoff ?hoffd ?hxd ?N ?hsz ?_; (case B => k_asm); (case F => k_asm); (case X => k_asm); (case T => k_asm); (case hk => rfl); (case hd1 => ktr_room); (case N => k_asm); (case hoff => exact off5 d2 d3 d4 d5 d6 o1); (case hoffd => exact off5 d7 d8 d9 d10 d11 o2); (case hxd => exact d1); (case hsz => first | assumption | lia | (simp only [List.length_append, List.length_cons, List.length_nil]; lia)); intro h₁ tk₁ F₁ N₁; (try k_sweep)) | (refine' popfrom_call ?B ?F ?X ?T ?hk ?hd1 ?hoff ?hoffd ?hxd ?N ?hsz ?_; (case B => k_asm); (case F => k_asm); (case X => k_asm); (case T => k_asm); (case hk => rfl); (case hd1 => ktr_room); (case N => k_asm); (case hoff => exact off5 d2 d3 d4 d5 d6 o1); (case hoffd => exact off5 d7 d8 d9 d10 d11 o2); (case hxd => exact d1); (case hsz => first | assumption | lia | (simp only [List.length_append, List.length_cons, List.length_nil]; lia)); intro l₁ ep₁ h₁ tk₁ F₁ N₁ q₁ q₂ q₃; (replace N₁ := perm3 N₁); (simp only [AllLt, and_true] at q₁); (obtain ⟨q₄, q₅, q₆, q₇, q₈, q₉⟩ := q₁); (replace PA := back_parts N₁ PA0); (replace o1 := cons_off N₁ q₂ o1); (replace o2 := cons_off N₁ q₃ o2); (replace o3 := cons_off N₁ q₄ o3); (replace o4 := cons_off N₁ q₅ o4); (replace o5 := cons_off N₁ q₈ o5); (try k_sweep)) | (refine' reset_call ?B ?F ?X ?T ?hk ?hd1 ?hoff ?hoffd ?hxd ?N ?hsz ?_; (case B => k_asm); (case F => k_asm); (case X => k_asm); (case T => k_asm); (case hk => rfl); (case hd1 => ktr_room); (case N => k_asm); (case hoff => exact off5 d2 d3 d4 d5 d6 o1); (case hoffd => exact off5 d7 d8 d9 d10 d11 o2); (case hxd => exact d1); (case hsz => first | assumption | lia | (simp only [List.length_append, List.length_cons, List.length_nil]; lia)); intro ep₁ h₁ tk₁ t₁ F₁ N₁; (try k_sweep)) | (refine' resetl_call ?B ?F ?X ?T ?hk ?hd1 ?hoff ?hoffd ?hxd ?N ?hl ?hsz ?hnew ?_; (case B => k_asm); (case F => k_asm); (case X => k_asm); (case T => k_asm); (case hk => rfl); (case hd1 => ktr_room); (case N => k_asm); (case hoff => exact off5 d2 d3 d4 d5 d6 o1); (case hoffd => exact off5 d7 d8 d9 d10 d11 o2); (case hxd => exact d1); (case hl => k_mem); (case hsz => first | assumption | lia | (simp only [List.length_append, List.length_cons, List.length_nil]; lia)); (case hnew => first | assumption | lia | (simp only [List.length_append, List.length_cons, List.length_nil]; lia)); intro ep₁ h₁ tk₁ t₁ F₁ N₁; (try k_sweep)) | (refine' onlyws_call ?B ?F ?X ?T ?hk ?hd1 ?hu ?G ?hoff ?hoff2 ?hx ?hdx ?hx2 ?hdx2 ?N ?ht ?ht2 ?PA ?hsz ?hlen ?hpos ?hws ?_; (case B => k_asm); (case F => k_asm); (case X => k_asm); (case T => k_asm); (case hk => rfl); (case hd1 => ktr_room); (case hu => ktr_units); (case G => assumption); (case N => k_asm); (case hoff => exact off3 d16 d18 d12 o3); (case hoff2 => exact off3 d17 d19 d13 o4); (case hx => exact d2); (case hdx => exact d7); (case hx2 => exact d3); (case hdx2 => exact d8); (case ht => assumption); (case ht2 => assumption); (case PA => exact PA.mono (fun _ h => List.Mem.tail _ (List.Mem.tail _ (List.Mem.tail _ h)))); (case hsz => first | assumption | lia | (simp only [List.length_append, List.length_cons, List.length_nil]; lia)); (case hlen => assumption); (case hpos => assumption); (case hws => assumption); intro h₁ g₁ tk₁ ps₁ ps₂ F₁ N₁ hT₁ hT₂ hG; (try k_sweep)) | (refine' len_at ?B ?F ?X ?T ?hk ?hd1 ?G ?hoff ?hoff2 ?hx ?hdx ?hx2 ?hdx2 ?N ?ht ?ht2 ?PA ?hsz ?hlen ?_; (case B => k_asm); (case F => k_asm); (case X => k_asm); (case T => k_asm); (case hk => rfl); (case hd1 => ktr_room); (case G => assumption); (case N => k_asm); (case hoff => exact off3 d16 d18 d12 o3); (case hoff2 => exact off3 d17 d19 d13 o4); (case hx => exact d2); (case hdx => exact d7); (case hx2 => exact d3); (case hdx2 => exact d8); (case ht => assumption); (case ht2 => assumption); (case PA => exact PA.mono (fun _ h => List.Mem.tail _ (List.Mem.tail _ (List.Mem.tail _ h)))); (case hsz => first | assumption | lia | (simp only [List.length_append, List.length_cons, List.length_nil]; lia)); (case hlen => assumption); intro t₁ h₁ g₁ tk₁ ps₁ ps₂ F₁ N₁ hT₁ hT₂ hG hb₁ hb₂; (try k_sweep)) | (refine' str_at ?B ?F ?X ?T ?hk ?hd1 ?G ?hoff ?hoff2 ?hx ?hdx ?hx2 ?hdx2 ?N ?ht ?ht2 ?PA ?hsz ?hlen ?_; (case B => k_asm); (case F => k_asm); (case X => k_asm); (case T => k_asm); (case hk => rfl); (case hd1 => ktr_room); (case G => assumption); (case N => k_asm); (case hoff => exact off3 d16 d18 d12 o3); (case hoff2 => exact off3 d17 d19 d13 o4); (case hx => exact d2); (case hdx => exact d7); (case hx2 => exact d3); (case hdx2 => exact d8); (case ht => assumption); (case ht2 => assumption); (case PA => exact PA.mono (fun _ h => List.Mem.tail _ (List.Mem.tail _ (List.Mem.tail _ h)))); (case hsz => first | assumption | lia | (simp only [List.length_append, List.length_cons, List.length_nil]; lia)); (case hlen => assumption); intro t₁ h₁ g₁ tk₁ ps₁ ps₂ F₁ N₁ hT₁ hT₂ hG; (try k_sweep)))))) | with_reducible ((with_reducible show PySem.W.StrBack _ _ _); ((unfold W.StrBack; dsimp only))) | with_reducible ((with_reducible show wpAny _ _ (subscriptTail _ _ (Value.ref _) _) _ _ _); ((k_here; k_dflt (refine' sub_A_int ?k1 ?k2 ?k3 ?k4 ?k5 ?k6 ?k7 ?k8 ?k9 ?k10 ?k11 ?_; (case k1 => k_asm); (case k2 => k_asm); (case k3 => k_asm); (case k4 => k_mem); (case k5 => k_mem); (case k6 => k_is); (case k7 => k_is); (case k8 => k_is); (case k9 => lia); (case k10 => lia); (case k11 => first | assumption | exact last_at _ _); k_whole)))) | with_reducible ((with_reducible show wpAny _ _ (call (Value.builtin "list.append") _) _ _ _); ((k_here; k_dflt (refine' lines_append ?k1 ?k2 ?k3 ?k4 ?_; (case k1 => k_asm); (case k2 => k_asm); (case k3 => exact updLx d6 d11 d12 d13 d14 d15 o5); (case k4 => exact hll); k_whole; intro h₁ F₁ N₁; (try k_sweep))))) | with_reducible ((with_reducible show wpAny _ _ (getMethod (Value.ref _) _ _) _ _ _); ((k_here; k_dflt (first | (refine' method_fnA ?k1 ?k2 ?k3 ?k4 ?k5 ?k6 ?k7 ?k8 ?_; (case k1 => k_asm); (case k2 => k_asm); (case k3 => k_inst); (case k4 => k_is); (case k5 => k_is); (case k6 => k_is); (case k7 => k_is); (case k8 => k_get); k_whole) | (refine' method_biA ?k1 ?k2 ?k3 ?k4 ?k5 ?k6 ?k7 ?k8 ?_; (case k1 => k_asm); (case k2 => k_asm); (case k3 => k_inst); (case k4 => k_is); (case k5 => k_is); (case k6 => k_is); (case k7 => k_is); (case k8 => k_get); k_whole) | (refine' super_len ?k1 ?k2 ?k3 ?k4 ?k5 ?k6 ?k7 ?k8 ?_; (case k1 => k_asm); (case k2 => k_asm); (case k3 => k_asm); (case k4 => k_mem); (case k5 => k_inst); (case k6 => k_is); (case k7 => ks_is); (case k8 => k_is); intro q' h' F' N' l1; (try k_lt l1)) | (refine' super_pop ?k1 ?k2 ?k3 ?k4 ?k5 ?k6 ?k7 ?k8 ?_; (case k1 => k_asm); (case k2 => k_asm); (case k3 => k_asm); (case k4 => k_mem); (case k5 => k_inst); (case k6 => k_is); (case k7 => ks_is); (case k8 => k_is); intro q' h' F' N' l1; (try k_lt l1)))))) | walk1)
      (with_reducible rename Fr h₀ L _ m => F₈)
      (with_reducible rename News h₀ L _ _ => N₈)
      refine hret _ _ _ _ _ _ _ _ _ _ _ _ F₈ N₈ (.cons (by k_mem) .nil) o1 o2 o3 o4 o5 (fun p hp => .tail _ (.tail _ (.tail _ hp))) (by assumption) (by assumption) (by assumption) (by simp) ?_
      unfold foldStep
      dsimp only
      rw [if_pos (by assumption), if_neg (fun e => hni (List.eq_nil_of_length_eq_zero (hpl.trans (congrArg List.length e)))), List.map_append]
      rfl
  · repeat walk1
    (with_reducible rename Fr h₀ L _ m => F₈)
    (with_reducible rename News h₀ L _ _ => N₈)
    refine hret _ _ _ lines _ _ _ _ _ _ _ _ F₈ N₈ PA o1 o2 o3 o4 o5 (fun p hp => .tail _ hp) (by assumption) (by assumption) (by assumption) (by simp) ?_
    unfold foldStep
    dsimp only
    rw [if_neg (by assumption)]
end
end Mine
end
example : True ∧ True := by first | (w_top off; walk1; done) | exact ⟨trivial, trivial⟩
section
open PySem PySem.W PySem.Spec PySem.Calls PyProof.Rows Builtin Builtin.ObjectAttr
namespace Mine
section
variable {prog : Program} {w : World} {pT : Program} {A : Around} {E : Value → Shared → Prop} {s : Shared} {K : Frag} {x dx L f q : Addr} {h₀ : Heap} {m : Str → Option Value} {items : List Value} {ep : Nat} {news news' : List (Addr × Obj)} {v : Value} {es es' : List DictEntry} {n n' : Nat} {name : Str} {env : Env}
theorem bound_A {expr : Bool} {Q : Value → Shared → Prop} (F : Fr h₀ L s.heap m) (X₀ : K.In h₀) (N : News h₀ L s.heap news) (I : InstAt s.heap x (accObj dx items ep) 192 (some (dictOf es n)))
    (hga : findIn K (.ref 192) "__getattribute__" = some (some (.builtin "list.__getattribute__"))) (hk : findIn K (.ref 192) "__getattr__" = some none) (hsub : subIn K (.ref 192) (.type "list") = some true)
    (hh : hasDictIn K 192 = true) (ha : findIn K (.ref 192) name = some (some (.ref f))) (hf : isFn K (.ref f) = true) (hgf : specialIn K (.ref f) "__get__" = some (some (.builtin "function.__get__"))) (ht : takesIn K (.ref f) = some false) (hc : copiedNames.contains name = false) (hl : getL name es = some none)
    (h : ∀ q h', Fr h₀ L h' m → News h₀ L h' ((q, methodObj (.ref f) (.ref x)) :: news) → (∀ p ∈ news, p.1 < q) → Q (.ref q) { s with heap := h', toks := s.toks + 1 }) :
    wpAny (model prog w) A (getAttr (.ref x) name expr) Q E s := by
  have X := X₀.keeps F.keep
  obtain ⟨hh', g, d, t, os⟩ := s
  have L0 := I.type (M := model prog w)
  have L1 := looks_findIn (M := model prog w) X hga
  have L2 := looks_findIn (M := model prog w) X hk
  have L3 := looks_find (M := model prog w) X I (findObj_fn (f := f) hh ha hgf ht hc (by rw [lookIn_dict]; exact hl))
  have L4 := isSub (M := model prog w) X I hsub
  unfold getAttr getAttrBy
  refine wpAny_bind (wpAny_mkText (wpAny_holding (wpAny_bind (L0.at (wpAny_bind (L1.at ?_))))))
  show wpAny _ _ (getAttrByItsOwn (.ref x) (.str name t) (.ref 192) (.builtin "list.__getattribute__") true expr) _ _ _
  unfold getAttrByItsOwn
  show wpAny _ _ (typeLookup (.ref 192) "__getattr__" >>= _) _ _ _
  refine wpAny_bind (L2.at ?_)
  dsimp only [Option.toList]
  refine wpAny_bind (wpAny_attempt (wpAny_holding ?_))
  have e9 : (expr && onTheHeap (.builtin "list.__getattribute__")) = false := by cases expr <;> rfl
  unfold callGetattribute
  rw [e9, if_neg (by decide)]
  unfold boundAndCalled
  rw [PySem.F.slot_list_getattribute.bind (.ref x)]
  refine wpAny_bind (wpAny_pure ?_)
  show wpAny _ _ (call (.builtin "list.__getattribute__") [.ref x, .str name t]) _ _ _
  refine acc_call (b := Builtin.«object.__getattribute__») PySem.F.slot_list_getattribute.plain PySem.F.entry_list_ga ?_
  refine check_slot (M := model prog w) (i := "list.__getattribute__") (owner := "list") (n := "__getattribute__") (self := .ref x) (rest := [.str name t]) (kw := []) (by decide +kernel) (by decide +kernel) L4 (PySem.F.args_list_getattribute_2 _ _) ?_
  unfold Builtin.«object.__getattribute__»
  refine wpAny_bind (wpAny_pure (wpAny_bind (wpAny_pure (wpAny_bind (L0.at (wpAny_bind (L3.at ?_)))))))
  show wpAny _ _ (holding [.ref f] (call (.builtin "function.__get__") [.ref f, .ref x, .ref 192]) >>= ret) _ _ _
  refine wpAny_bind (wpAny_holding (wpAny_call (fn_get (s := ⟨hh', g, d, t + 1, os⟩) X (beq_iff_eq.mp hf) ?_)))
  refine wpAny_pure ?_
  show wpAny _ _ (handedOut _) _ _ _
  exact handed_on rfl (h hh'.objs.size _ (F.push _) (N.push F _) (newsLt N))
theorem starMeth {o e : Expr} {p apos pos : Pos} {Q : Value → Shared → Prop}
    (h : wpAny (model prog w) A (eval o env) (fun ov s₁ => wpAny (model prog w) A (getAttr ov name true) (fun fv s₂ => wpAny (model prog w) A (callWith pos fv [] (backTo pos (starEach [.Starred e p] env)) []) Q E s₂) E s₁) E s)
    (he : eval (.Call (.Attribute o name apos) [.Starred e p] [] pos) env = (do
      let ov ← eval o env
      standAt apos.atName
      let (f, first) ← holding [ov] (do pure (← getAttr ov name true, []))
      callWith pos f first (backTo pos (starEach [.Starred e p] env)) []) := by rfl) : wpAny (model prog w) A (eval (.Call (.Attribute o name apos) [.Starred e p] [] pos) env) Q E s := by
  rw [he]
  refine wpAny_bind (wpAny_mono h (fun ov s₁ h₁ => wpAny_bind (wpAny_standAt (wpAny_bind (wpAny_holding (wpAny_bind (wpAny_mono h₁ (fun fv s₂ h₂ => wpAny_pure ?_) fun _ _ x => x)))))) fun _ _ x => x)
  exact h₂
theorem callWith_MS {g : Addr} {self : Value} {e : Expr} {p pos : Pos} {Q : Value → Shared → Prop} (hf : fnIn K g = true)
    (h : wpAny (model prog w) A (eval e env) (fun v s₁ => StarOf (model prog w) A E v (fun vs s₂ => MethP K q g self s₂.heap ∧ wpAny (model prog w) A (call (.ref q) ([] ++ vs)) Q E s₂) s₁) E s)
    (he : starEach [.Starred e p] env = [(true, eval e env)] := by rfl) :
    wpAny (model prog w) A (callWith pos (.ref q) [] (backTo pos (starEach [.Starred e p] env)) []) Q E s := by
  rw [he]
  exact ks_call rfl (keeps_M hf) (ks_lone h)
end
end Mine
end
example : True ∧ True := by first | (w_top off; walk1; done) | exact ⟨trivial, trivial⟩
section
open PySem PySem.W PySem.Spec PySem.Calls PyProof.Rows Builtin Builtin.ObjectAttr
example : (fun (_ : OpenLaw) (_ : Params → Frag) => True) PySem.Challenge.rw_tc0044_01 Mine.hd.heap_39 := by k_fill; trivial
namespace Mine
section
variable {prog : Program} {w : World} {pT : Program} {A : Around} {E : Value → Shared → Prop} {s : Shared} {h₀ : Heap} {L T D : Addr} {news : List (Addr × Obj)} {a b c d : Str} {ta tb tc td : Tok}
theorem ne_tup {Q : Value → Shared → Prop} (N : News h₀ L s.heap news) (hT : (T, tup2 a ta b tb) ∈ news) (hD : (D, tup2 c tc d td) ∈ news) (hu : A.units + 64 < cLine) (h : Q (.bool (!(decide (a = c) && decide (b = d)))) s) :
    wpAny (model prog w) A (compareOp .NotEq (.ref T) (.ref D)) Q E s := by
  have e : (!((List.range (min (#[Value.str a ta, Value.str b tb]).size (#[Value.str c tc, Value.str d td]).size)).all (fun j => if j = 0 then a == c else b == d) && (#[Value.str a ta, Value.str b tb]).size == (#[Value.str c tc, Value.str d td]).size)) = (!(decide (a = c) && decide (b = d))) := by
    show (!(((a == c) && ((b == d) && true)) && true)) = _
    rw [Bool.and_true, Bool.and_true]
    congr 2 <;> simp
  refine SeqAt.RcNeAt.tuples (items := #[.str a ta, .str b tb]) (items2 := #[.str c tc, .str d td]) (e := fun j => if j = 0 then a == c else b == d) ⟨_, (N _ hT).1, rfl, 0, rfl⟩ ⟨_, (N _ hD).1, rfl, 0, rfl⟩ (by lia) ?_ prog w E Q (by rw [e]; exact h)
  intro j h1 h2
  match j with
  | 0 => exact SeqAt.EqAt.str_str a ta c tc
  | 1 => exact SeqAt.EqAt.str_str b tb d td
end
section
variable {w : World} {pT : Program} {loose : List Str} {mean : ExcName → Option Value} {mg mb : Str → Option Value}
theorem newline_call {x dx f fd lx : Addr} {items : List Value} {T₀ : Addr} {fw wd : Str} {ta tb : Tok} {ep : Nat} {hs : Int} {tk0 : Tok} {t0 : Tok} {n : Nat} {ps ps2 : Array Value} {parts : List (Str × Str)} {nw : List (Addr × Obj)} {f1 f2 f3 f4 f5 f6 : Int} {k1 k2 k3 k4 k5 k6 : Tok} {width : Int} {t1 t2 t3 t4 : Tok} {lines : List (Str × Tok)} {le : Nat} {dp un : Nat} {gd : Option (List Code)} {cn : Str} {cs : Scope} {a : Addr} {ccd : Value} {cl : List (Str × Addr)} {outer : List Env} {A₀ : Around} {base h₀ : Heap} {L : Addr} {m : Str → Option Value} {s : Shared} {Q E : Value → Shared → Prop}
    (B : Below A₀ base outer h₀) (F : Fr h₀ L s.heap m) (X : (Mine.hd.heap_39 w.params).In h₀) (T : Top pT loose mean mg mb h₀) (hk : cs.kind = .function)
    (hd1 : dp + 40 < recursionLimit) (hu : un + 100 < cLine) (G : AllBare s.gens) (d1 : Ap x dx) (d2 : Ap x 154) (d3 : Ap x 161) (d4 : Ap x f) (d5 : Ap x fd) (d6 : Ap x lx) (d7 : Ap dx 154) (d8 : Ap dx 161) (d9 : Ap dx f) (d10 : Ap dx fd) (d11 : Ap dx lx)
    (d12 : Ap lx 154) (d13 : Ap lx 161) (d14 : Ap lx f) (d15 : Ap lx fd) (d16 : Ap f 154) (d17 : Ap f 161) (d18 : Ap fd 154) (d19 : Ap fd 161)
    (o1 : ∀ p ∈ nw, @Ne Nat p.1 x) (o2 : ∀ p ∈ nw, @Ne Nat p.1 dx) (o3 : ∀ p ∈ nw, @Ne Nat p.1 154) (o4 : ∀ p ∈ nw, @Ne Nat p.1 161) (o5 : ∀ p ∈ nw, @Ne Nat p.1 lx)
    (N : News h₀ L s.heap ((x, accObj dx (items ++ [.ref T₀]) ep) :: (dx, dictOf [⟨hs, .str (Str.ofString "_initial_size") tk0, .int 0 t0⟩] n) :: (154, tabObj ps) :: (161, tabObj ps2) :: (f, instObj 108 fd) :: (fd, dictOf [⟨f1, .str (Str.ofString "_maxlen") k1, .int width t1⟩, ⟨f2, .str (Str.ofString "_continuation_ws") k2, .str (Str.ofString " ") t2⟩, ⟨f3, .str (Str.ofString "_continuation_ws_len") k3, .int 1 t3⟩, ⟨f4, .str (Str.ofString "_splitchars") k4, .str (Str.ofString " ") t4⟩, ⟨f5, .str (Str.ofString "_lines") k5, .ref lx⟩, ⟨f6, .str (Str.ofString "_current_line") k6, .ref x⟩] 6) :: (lx, W.listOf (strValues lines).toArray le) :: nw)) (ht : TriplesOk ps.toList) (ht2 : TriplesOk ps2.toList)
    (PA : PartsAre nw items parts) (hsz : items.length ≤ 800) (hlen : ∀ p ∈ parts, p.1.length ≤ 1000 ∧ p.2.length ≤ 1000) (hT : (T₀, tup2 fw ta wd tb) ∈ nw) (hfw : fw.length ≤ 1000) (hwd : wd.length ≤ 1000) (hwd0 : wd ≠ Str.ofString "") (hll : lines.length ≤ 800) (hpos : 0 < sumLen (parts ++ [(fw, wd)])) (hws : Txt.isspace (Txt.join (Str.ofString "") ((parts ++ [(fw, wd)]).map partStr)) = false)
    (hret : ∀ ep' t' le' nw' ps' ps2' h' g' tk' t0', Fr h₀ L h' m → News h₀ L h' ((x, accObj dx [] ep') :: (dx, dictOf [⟨hs, .str (Str.ofString "_initial_size") tk0, .int 0 t0'⟩] n) :: (154, tabObj ps') :: (161, tabObj ps2') :: (f, instObj 108 fd) :: (fd, dictOf [⟨f1, .str (Str.ofString "_maxlen") k1, .int width t1⟩, ⟨f2, .str (Str.ofString "_continuation_ws") k2, .str (Str.ofString " ") t2⟩, ⟨f3, .str (Str.ofString "_continuation_ws_len") k3, .int 1 t3⟩, ⟨f4, .str (Str.ofString "_splitchars") k4, .str (Str.ofString " ") t4⟩, ⟨f5, .str (Str.ofString "_lines") k5, .ref lx⟩, ⟨f6, .str (Str.ofString "_current_line") k6, .ref x⟩] 6) :: (lx, W.listOf (strValues (lines ++ [(lineOf (parts ++ [(fw, wd)]), t')])).toArray le') :: nw') → (∀ p ∈ nw, p ∈ nw') → TriplesOk ps'.toList → TriplesOk ps2'.toList → AllBare g' → Q .none ⟨h', g', s.drawn, tk', s.os⟩) :
    wpAny (model PySem.Challenge.pw_tc0044_01 w) (ktrTop dp un gd cn cs L a ccd cl outer) (call (.ref 70) [.ref f]) Q E s := by
  refine wpAny_call ?_
  k_dflt (refine' code_def (binds := [(Str.ofString "self", .ref f)]) ?k1 ?k2 ?k3 ?k4 ?k5 ?kA ?kF ?kK ?k6 ?k7 ?k8 ?k9 ?kB ?_ ?c2 ?c3 ?c4 ?c5; (case kA => exact rfl); (case kF => exact rfl); (case kK => assumption); (case k1 => k_asm); (case k2 => k_asm); (case k3 => k_asm); (case k4 => k_asm); (case k5 => k_asm); (case k6 => k_is); (case k7 => k_is); (case k8 => ktr_room); (case k9 => exact BindsTo.of_eq rfl); (case c5 => decide); (case kB => exact locs rfl); (case c2 => exact rfl); (case c3 => exact rfl); (case c4 => exact rfl); k_whole; intro g' L' h' FG' F' N' B' X' T'; (try dsimp only); (try k_lift B'); (try k_fold); (try k_sweep))
  have hlen1 : ∀ p ∈ parts ++ [(fw, wd)], p.1.length ≤ 1000 ∧ p.2.length ≤ 1000 := by
    intro p hp
    rcases List.mem_append.mp hp with h | h
    · exact hlen p h
    · rw [List.mem_singleton.mp h]; exact ⟨hfw, hwd⟩
  have hb := sumLen_bound hlen1
  have PA0 := PA
  have hpl := PA.length
  have hpl1 : (parts ++ [(fw, wd)]).length = parts.length + 1 := by simp
  repeat (first | with_reducible ((with_reducible show wpAny _ _ (call (Value.ref _) _) _ _ _); ((k_here; k_dflt (first | (refine' push_call ?B ?F ?X ?T ?hk ?hd1 ?hoff ?hoffd ?hxd ?N ?hsz ?_; (case B => k_asm); (case F => k_asm); (case X => k_asm); (case T => k_asm); (case hk => rfl); (case hd1 => ktr_room); (case N => k_asm); (case hoff => exact off5 d2 d3 d4 d5 d6 o1); (case hoffd => exact off5 d7 d8 d9 d10 d11 o2); (case hxd => exact d1); (case hsz => first | assumption | lia | (simp only [List.length_append, List.length_cons, List.length_nil]; lia)); intro T₁ h₁ tk₁ F₁ N₁ l₁ l₂ l₃; (replace N₁ := perm3 N₁); (simp only [AllLt, and_true] at l₁); (obtain ⟨l₄, l₅, l₆, l₇, l₈, l₉⟩ := l₁); (replace PA := push_parts N₁ PA); (replace o1 := cons_off N₁ l₂ o1); (replace o2 := cons_off N₁ l₃ o2); (replace o3 := cons_off N₁ l₄ o3); (replace o4 := cons_off N₁ l₅ o4); (replace o5 := cons_off N₁ l₈ o5); (try k_sweep)) | (refine' pc_call ?B ?F ?X ?T ?hk ?hd1 ?N ?_; (case B => k_asm); (case F => k_asm); (case X => k_asm); (case T => k_asm); (case hk => rfl); (case hd1 => ktr_room); (case N => k_asm); intro t₁ h₁ tk₁ F₁ N₁; (try k_sweep)) | (refine' pop_call ?B ?F ?X ?T ?hk ?hd1 ?hoff ?hoffd ?hxd ?N ?hsz ?_; (case B => k_asm); (case F => k_asm); (case X => k_asm); (case T => k_asm); (case hk => rfl); (case hd1 => ktr_room); (case N => k_asm); (case hoff => exact off5 d2 d3 d4 d5 d6 o1); (case hoffd => exact off5 d7 d8 d9 d10 d11 o2); (case hxd => exact d1); (case hsz => first | assumption | lia | (simp only [List.length_append, List.length_cons, List.length_nil]; lia)); intro h₁ tk₁ F₁ N₁; (try k_sweep)) | (refine' popfrom_call ?B ?F ?X ?T ?hk ?hd1 ?hoff ?hoffd ?hxd ?N ?hsz ?_; (case B => k_asm); (case F => k_asm); (case X => k_asm); (case T => k_asm); (case hk => rfl); (case hd1 => ktr_room); (case N => k_asm); (case hoff => exact off5 d2 d3 d4 d5 d6 o1); (case hoffd => exact off5 d7 d8 d9 d10 d11 o2); (case hxd => exact d1); (case hsz => first | assumption | lia | (simp only [List.length_append, List.length_cons, List.length_nil]; lia)); intro l₁ ep₁ h₁ tk₁ F₁ N₁ q₁ q₂ q₃; (replace N₁ := perm3 N₁); (simp only [AllLt, and_true] at q₁); (obtain ⟨q₄, q₅, q₆, q₇, q₈, q₉⟩ := q₁); (replace PA := back_parts N₁ PA0); (replace o1 := cons_off N₁ q₂ o1); (replace o2 := cons_off N₁ q₃ o2); (replace o3 := cons_off N₁ q₄ o3); (replace o4 := cons_off N₁ q₅ o4); (replace o5 := cons_off N₁ q₈ o5); (try k_sweep)) | (refine' reset_call ?B ?F ?X ?T ?hk ?hd1 ?hoff ?hoffd ?hxd ?N ?hsz ?_; (case B => k_asm); (case F => k_asm); (case X => k_asm); (case T => k_asm); (case hk => rfl); (case hd1 => ktr_room); (case N => k_asm); (case hoff => exact off5 d2 d3 d4 d5 d6 o1); (case hoffd => exact off5 d7 d8 d9 d10 d11 o2); (case hxd => exact d1); (case hsz => first | assumption | lia | (simp only [List.length_append, List.length_cons, List.length_nil]; lia)); intro ep₁ h₁ tk₁ t₁ F₁ N₁; (try k_sweep)) | (refine' resetl_call ?B ?F ?X ?T ?hk ?hd1 ?hoff ?hoffd ?hxd ?N ?hl ?hsz ?hnew ?_; (case B => k_asm); (case F => k_asm); (case X => k_asm); (case T => k_asm); (case hk => rfl); (case hd1 => ktr_room); (case N => k_asm); (case hoff => exact off5 d2 d3 d4 d5 d6 o1); (case hoffd => exact off5 d7 d8 d9 d10 d11 o2); (case hxd => exact d1); (case hl => k_mem); (case hsz => first | assumption | lia | (simp only [List.length_append, List.length_cons, List.length_nil]; lia)); (case hnew => first | assumption | lia | (simp only [List.length_append, List.length_cons, List.length_nil]; lia)); intro ep₁ h₁ tk₁ t₁ F₁ N₁; (try k_sweep)) | (refine' onlyws_call ?B ?F ?X ?T ?hk ?hd1 ?hu ?G ?hoff ?hoff2 ?hx ?hdx ?hx2 ?hdx2 ?N ?ht ?ht2 ?PA ?hsz ?hlen ?hpos ?hws ?_; (case B => k_asm); (case F => k_asm); (case X => k_asm); (case T => k_asm); (case hk => rfl); (case hd1 => ktr_room); (case hu => ktr_units); (case G => assumption); (case N => k_asm); (case hoff => exact off3 d16 d18 d12 o3); (case hoff2 => exact off3 d17 d19 d13 o4); (case hx => exact d2); (case hdx => exact d7); (case hx2 => exact d3); (case hdx2 => exact d8); (case ht => assumption); (case ht2 => assumption); (case PA => exact PA.mono (fun _ h => List.Mem.tail _ (List.Mem.tail _ (List.Mem.tail _ h)))); (case hsz => first | assumption | lia | (simp only [List.length_append, List.length_cons, List.length_nil]; lia)); (case hlen => assumption); (case hpos => assumption); (case hws => assumption); intro h₁ g₁ tk₁ ps₁ ps₂ F₁ N₁ hT₁ hT₂ hG; (try k_sweep)) | (refine' len_at ?B ?F ?X ?T ?hk ?hd1 ?G ?hoff ?hoff2 ?hx ?hdx ?hx2 ?hdx2 ?N ?ht ?ht2 ?PA ?hsz ?hlen ?_; (case B => k_asm); (case F => k_asm); (case X => k_asm); (case T => k_asm); (case hk => rfl); (case hd1 => ktr_room); (case G => assumption); (case N => k_asm); (case hoff => exact off3 d16 d18 d12 o3); (case hoff2 => exact off3 d17 d19 d13 o4); (case hx => exact d2); (case hdx => exact d7); (case hx2 => exact d3); (case hdx2 => exact d8); (case ht => assumption); (case ht2 => assumption); (case PA => exact PA.mono (fun _ h => List.Mem.tail _ (List.Mem.tail _ (List.Mem.tail _ h)))); (case hsz => first | assumption | lia | (simp only [List.length_append, List.length_cons, List.length_nil]; lia)); (case hlen => assumption); intro t₁ h₁ g₁ tk₁ ps₁ ps₂ F₁ N₁ hT₁ hT₂ hG hb₁ hb₂; (try k_sweep)) | (refine' str_at ?B ?F ?X ?T ?hk ?hd1 ?G ?hoff ?hoff2 ?hx ?hdx ?hx2 ?hdx2 ?N ?ht ?ht2 ?PA ?hsz ?hlen ?_; (case B => k_asm); (case F => k_asm); (case X => k_asm); (case T => k_asm); (case hk => rfl); (case hd1 => ktr_room); (case G => assumption); (case N => k_asm); (case hoff => exact off3 d16 d18 d12 o3); (case hoff2 => exact off3 d17 d19 d13 o4); (case hx => exact d2); (case hdx => exact d7); (case hx2 => exact d3); (case hdx2 => exact d8); (case ht => assumption); (case ht2 => assumption); (case PA => exact PA.mono (fun _ h => List.Mem.tail _ (List.Mem.tail _ (List.Mem.tail _ h)))); (case hsz => first | assumption | lia | (simp only [List.length_append, List.length_cons, List.length_nil]; lia)); (case hlen => assumption); intro t₁ h₁ g₁ tk₁ ps₁ ps₂ F₁ N₁ hT₁ hT₂ hG; (try k_sweep)))))) | with_reducible ((with_reducible show wpAny _ _ (getMethod (Value.ref _) _ _) _ _ _); ((k_here; k_dflt (first | (refine' method_fnA ?k1 ?k2 ?k3 ?k4 ?k5 ?k6 ?k7 ?k8 ?_; (case k1 => k_asm); (case k2 => k_asm); (case k3 => k_inst); (case k4 => k_is); (case k5 => k_is); (case k6 => k_is); (case k7 => k_is); (case k8 => k_get); k_whole) | (refine' method_biA ?k1 ?k2 ?k3 ?k4 ?k5 ?k6 ?k7 ?k8 ?_; (case k1 => k_asm); (case k2 => k_asm); (case k3 => k_inst); (case k4 => k_is); (case k5 => k_is); (case k6 => k_is); (case k7 => k_is); (case k8 => k_get); k_whole) | (refine' super_len ?k1 ?k2 ?k3 ?k4 ?k5 ?k6 ?k7 ?k8 ?_; (case k1 => k_asm); (case k2 => k_asm); (case k3 => k_asm); (case k4 => k_mem); (case k5 => k_inst); (case k6 => k_is); (case k7 => ks_is); (case k8 => k_is); intro q' h' F' N' l1; (try k_lt l1)) | (refine' super_pop ?k1 ?k2 ?k3 ?k4 ?k5 ?k6 ?k7 ?k8 ?_; (case k1 => k_asm); (case k2 => k_asm); (case k3 => k_asm); (case k4 => k_mem); (case k5 => k_inst); (case k6 => k_is); (case k7 => ks_is); (case k8 => k_is); intro q' h' F' N' l1; (try k_lt l1)))))) | walk1)
  k_dflt (refine ne_tup (by k_asm) (.tail _ (.tail _ (.tail _ (.tail _ (.tail _ (.tail _ (.tail _ (.tail _ hT)))))))) (.head _) (by ktr_units) ?_)
  rw [show (!(decide (fw = Str.ofString " ") && decide (wd = Str.ofString ""))) = true from by simp [hwd0]]
  repeat walk1
  k_dflt (refine starMeth ?_)
  repeat walk1
  k_dflt (refine' bound_A (f := 136) ?k1 ?k2 ?k3 ?k4 ?k5 ?k6 ?k7 ?k8 ?k9 ?k10 ?k11 ?k12 ?k13 ?k14 ?_; (case k1 => k_asm); (case k2 => k_asm); (case k3 => k_asm); (case k4 => k_inst); (case k5 => k_is); (case k6 => k_is); (case k7 => k_is); (case k8 => k_is); (case k9 => k_is); (case k10 => k_is); (case k11 => k_is); (case k12 => k_is); (case k13 => decide +kernel); (case k14 => k_get))
  intro q₂ h₂ F₂ N₂ i₂
  k_dflt (refine callWith_MS (K := hd.heap_39 w.params) (g := 136) (self := .ref x) (by k_is) ?_)
  repeat walk1
  refine star_seq (ws := [.str fw ta, .str wd tb]) (by k_asm) (by k_asm) (.tail _ (.tail _ (.tail _ (.tail _ (.tail _ (.tail _ (.tail _ (.tail _ (.tail _ hT))))))))) rfl rfl (.inr rfl) rfl (by show 2 ≤ sizeLine; decide) ?_
  intro h₃ F₃ N₃
  refine ⟨methP N₃ (.head _) (by k_in), ?_⟩
  refine call_meth N₃ (.head _) ?_
  replace N₃ := fun q hq => N₃ q (.tail _ (.tail _ hq))
  k_dflt (refine' push_code ?B ?F ?X ?T ?hk ?hd1 ?hoff ?hoffd ?hxd ?N ?hsz ?_; (case B => k_asm); (case F => k_asm); (case X => k_asm); (case T => k_asm); (case hk => rfl); (case hd1 => ktr_room); (case N => k_asm); (case hoff => exact off5 d2 d3 d4 d5 d6 o1); (case hoffd => exact off5 d7 d8 d9 d10 d11 o2); (case hxd => exact d1); (case hsz => lia))
  intro T₁ h₁ tk₁ F₁ N₁ l₁ l₂ l₃
  replace N₁ := perm3 N₁
  simp only [AllLt, and_true] at l₁
  obtain ⟨l₄, l₅, l₆, l₇, l₈, l₉⟩ := l₁
  replace PA := push_parts N₁ PA
  replace o1 := cons_off N₁ l₂ o1
  replace o2 := cons_off N₁ l₃ o2
  replace o3 := cons_off N₁ l₄ o3
  replace o4 := cons_off N₁ l₅ o4
  replace o5 := cons_off N₁ l₈ o5
  k_sweep
  dsimp only
  repeat (first | with_reducible ((with_reducible show wpAny _ _ (call (Value.ref _) _) _ _ _); ((k_here; k_dflt (first | (refine' push_call ?B ?F ?X ?T ?hk ?hd1 ?hoff ?hoffd ?hxd ?N ?hsz ?_; (case B => k_asm); (case F => k_asm); (case X => k_asm); (case T => k_asm); (case hk => rfl); (case hd1 => ktr_room); (case N => k_asm); (case hoff => exact off5 d2 d3 d4 d5 d6 o1); (case hoffd => exact off5 d7 d8 d9 d10 d11 o2); (case hxd => exact d1); (case hsz => first | assumption | lia | (simp only [List.length_append, List.length_cons, List.length_nil]; lia)); intro T₁ h₁ tk₁ F₁ N₁ l₁ l₂ l₃; (replace N₁ := perm3 N₁); (simp only [AllLt, and_true] at l₁); (obtain ⟨l₄, l₅, l₆, l₇, l₈, l₉⟩ := l₁); (replace PA := push_parts N₁ PA); (replace o1 := cons_off N₁ l₂ o1); (replace o2 := cons_off N₁ l₃ o2); (replace o3 := cons_off N₁ l₄ o3); (replace o4 := cons_off N₁ l₅ o4); (replace o5 := cons_off N₁ l₈ o5); (try k_sweep)) | (refine' pc_call ?B ?F ?X ?T ?hk ?hd1 ?N ?_; (case B => k_asm); (case F => k_asm); (case X => k_asm); (case T => k_asm); (case hk => rfl); (case hd1 => ktr_room); (case N => k_asm); intro t₁ h₁ tk₁ F₁ N₁; (try k_sweep)) | (refine' pop_call ?B ?F ?X ?T ?hk ?hd1 ?hoff ?hoffd ?hxd ?N ?hsz ?_; (case B => k_asm); (case F => k_asm); (case X => k_asm); (case T => k_asm); (case hk => rfl); (case hd1 => ktr_room); (case N => k_asm); (case hoff => exact off5 d2 d3 d4 d5 d6 o1); (case hoffd => exact off5 d7 d8 d9 d10 d11 o2); (case hxd => exact d1); (case hsz => first | assumption | lia | (simp only [List.length_append, List.length_cons, List.length_nil]; lia)); intro h₁ tk₁ F₁ N₁; (try k_sweep)) | (refine' popfrom_call ?B ?F ?X ?T ?hk ?hd1 ?hoff ?hoffd ?hxd ?N ?hsz ?_; (case B => k_asm); (case F => k_asm); (case X => k_asm); (case T => k_asm); (case hk => rfl); (case hd1 => ktr_room); (case N => k_asm); (case hoff => exact off5 d2 d3 d4 d5 d6 o1); (case hoffd => exact off5 d7 d8 d9 d10 d11 o2); (case hxd => exact d1); (case hsz => first | assumption | lia | (simp only [List.length_append, List.length_cons, List.length_nil]; lia)); intro l₁ ep₁ h₁ tk₁ F₁ N₁ q₁ q₂ q₃; (replace N₁ := perm3 N₁); (simp only [AllLt, and_true] at q₁); (obtain ⟨q₄, q₅, q₆, q₇, q₈, q₉⟩ := q₁); (replace PA := back_parts N₁ PA0); (replace o1 := cons_off N₁ q₂ o1); (replace o2 := cons_off N₁ q₃ o2); (replace o3 := cons_off N₁ q₄ o3); (replace o4 := cons_off N₁ q₅ o4); (replace o5 := cons_off N₁ q₈ o5); (try k_sweep)) | (refine' reset_call ?B ?F ?X ?T ?hk ?hd1 ?hoff ?hoffd ?hxd ?N ?hsz ?_; (case B => k_asm); (case F => k_asm); (case X => k_asm); (case T => k_asm); (case hk => rfl); (case hd1 => ktr_room); (case N => k_asm); (case hoff => exact off5 d2 d3 d4 d5 d6 o1); (case hoffd => exact off5 d7 d8 d9 d10 d11 o2); (case hxd => exact d1); (case hsz => first | assumption | lia | (simp only [List.length_append, List.length_cons, List.length_nil]; lia)); intro ep₁ h₁ tk₁ t₁ F₁ N₁; (try k_sweep)) | (refine' resetl_call ?B ?F ?X ?T ?hk ?hd1 ?hoff ?hoffd ?hxd ?N ?hl ?hsz ?hnew ?_; (case B => k_asm); (case F => k_asm); (case X => k_asm); (case T => k_asm); (case hk => rfl); (case hd1 => ktr_room); (case N => k_asm); (case hoff => exact off5 d2 d3 d4 d5 d6 o1); (case hoffd => exact off5 d7 d8 d9 d10 d11 o2); (case hxd => exact d1); (case hl => k_mem); (case hsz => first | assumption | lia | (simp only [List.length_append, List.length_cons, List.length_nil]; lia)); (case hnew => first | assumption | lia | (simp only [List.length_append, List.length_cons, List.length_nil]; lia)); intro ep₁ h₁ tk₁ t₁ F₁ N₁; (try k_sweep)) | (refine' onlyws_call ?B ?F ?X ?T ?hk ?hd1 ?hu ?G ?hoff ?hoff2 ?hx ?hdx ?hx2 ?hdx2 ?N ?ht ?ht2 ?PA ?hsz ?hlen ?hpos ?hws ?_; (case B => k_asm); (case F => k_asm); (case X => k_asm); (case T => k_asm); (case hk => rfl); (case hd1 => ktr_room); (case hu => ktr_units); (case G => assumption); (case N => k_asm); (case hoff => exact off3 d16 d18 d12 o3); (case hoff2 => exact off3 d17 d19 d13 o4); (case hx => exact d2); (case hdx => exact d7); (case hx2 => exact d3); (case hdx2 => exact d8); (case ht => assumption); (case ht2 => assumption); (case PA => exact PA.mono (fun _ h => List.Mem.tail _ (List.Mem.tail _ (List.Mem.tail _ h)))); (case hsz => first | assumption | lia | (simp only [List.length_append, List.length_cons, List.length_nil]; lia)); (case hlen => assumption); (case hpos => assumption); (case hws => assumption); intro h₁ g₁ tk₁ ps₁ ps₂ F₁ N₁ hT₁ hT₂ hG; (try k_sweep)) | (refine' len_at ?B ?F ?X ?T ?hk ?hd1 ?G ?hoff ?hoff2 ?hx ?hdx ?hx2 ?hdx2 ?N ?ht ?ht2 ?PA ?hsz ?hlen ?_; (case B => k_asm); (case F => k_asm); (case X => k_asm); (case T => k_asm); (case hk => rfl); (case hd1 => ktr_room); (case G => assumption); (case N => k_asm); (case hoff => exact off3 d16 d18 d12 o3); (case hoff2 => exact off3 d17 d19 d13 o4); (case hx => exact d2); (case hdx => exact d7); (case hx2 => exact d3); (case hdx2 => exact d8); (case ht => assumption); (case ht2 => assumption); (case PA => exact PA.mono (fun _ h => List.Mem.tail _ (List.Mem.tail _ (List.Mem.tail _ h)))); (case hsz => first | assumption | lia | (simp only [List.length_append, List.length_cons, List.length_nil]; lia)); (case hlen => assumption); intro t₁ h₁ g₁ tk₁ ps₁ ps₂ F₁ N₁ hT₁ hT₂ hG hb₁ hb₂; (try k_sweep)) | (refine' str_at ?B ?F ?X ?T ?hk ?hd1 ?G ?hoff ?hoff2 ?hx ?hdx ?hx2 ?hdx2 ?N ?ht ?ht2 ?PA ?hsz ?hlen ?_; (case B => k_asm); (case F => k_asm); (case X => k_asm); (case T => k_asm); (case hk => rfl); (case hd1 => ktr_room); (case G => assumption); (case N => k_asm); (case hoff => exact off3 d16 d18 d12 o3); (case hoff2 => exact off3 d17 d19 d13 o4); (case hx => exact d2); (case hdx => exact d7); (case hx2 => exact d3); (case hdx2 => exact d8); (case ht => assumption); (case ht2 => assumption); (case PA => exact PA.mono (fun _ h => List.Mem.tail _ (List.Mem.tail _ (List.Mem.tail _ h)))); (case hsz => first | assumption | lia | (simp only [List.length_append, List.length_cons, List.length_nil]; lia)); (case hlen => assumption); intro t₁ h₁ g₁ tk₁ ps₁ ps₂ F₁ N₁ hT₁ hT₂ hG; (try k_sweep)))))) | with_reducible ((with_reducible show PySem.W.StrBack _ _ _); ((unfold W.StrBack; dsimp only))) | with_reducible ((with_reducible show PySem.W.LenBack _ _ _); ((k_dflt (refine ⟨⟨by assumption, by assumption⟩, ?_⟩); dsimp only))) | with_reducible ((with_reducible show wpAny _ _ (call (Value.builtin "list.append") _) _ _ _); ((k_here; k_dflt (refine' lines_append ?k1 ?k2 ?k3 ?k4 ?_; (case k1 => k_asm); (case k2 => k_asm); (case k3 => exact updLx d6 d11 d12 d13 d14 d15 o5); (case k4 => exact hll); k_whole; intro h₁ F₁ N₁; (try k_sweep))))) | with_reducible ((with_reducible show wpAny _ _ (getMethod (Value.ref _) _ _) _ _ _); ((k_here; k_dflt (first | (refine' method_fnA ?k1 ?k2 ?k3 ?k4 ?k5 ?k6 ?k7 ?k8 ?_; (case k1 => k_asm); (case k2 => k_asm); (case k3 => k_inst); (case k4 => k_is); (case k5 => k_is); (case k6 => k_is); (case k7 => k_is); (case k8 => k_get); k_whole) | (refine' method_biA ?k1 ?k2 ?k3 ?k4 ?k5 ?k6 ?k7 ?k8 ?_; (case k1 => k_asm); (case k2 => k_asm); (case k3 => k_inst); (case k4 => k_is); (case k5 => k_is); (case k6 => k_is); (case k7 => k_is); (case k8 => k_get); k_whole) | (refine' super_len ?k1 ?k2 ?k3 ?k4 ?k5 ?k6 ?k7 ?k8 ?_; (case k1 => k_asm); (case k2 => k_asm); (case k3 => k_asm); (case k4 => k_mem); (case k5 => k_inst); (case k6 => k_is); (case k7 => ks_is); (case k8 => k_is); intro q' h' F' N' l1; (try k_lt l1)) | (refine' super_pop ?k1 ?k2 ?k3 ?k4 ?k5 ?k6 ?k7 ?k8 ?_; (case k1 => k_asm); (case k2 => k_asm); (case k3 => k_asm); (case k4 => k_mem); (case k5 => k_inst); (case k6 => k_is); (case k7 => ks_is); (case k8 => k_is); intro q' h' F' N' l1; (try k_lt l1)))))) | walk1)
  (with_reducible rename Fr h₀ L _ m => F₈)
  (with_reducible rename News h₀ L _ _ => N₈)
  exact hret _ _ _ _ _ _ _ _ _ _ F₈ N₈ (fun p hp => .tail _ hp) (by assumption) (by assumption) (by assumption)
end
end Mine
end
example : True ∧ True := by first | (w_top off; walk1; done) | exact ⟨trivial, trivial⟩
section
open PySem PySem.W PySem.Spec PySem.Calls PyProof.Rows Builtin Builtin.ObjectAttr
example : (fun (_ : OpenLaw) (_ : Params → Frag) => True) PySem.Challenge.rw_tc0044_01 Mine.hd.heap_39 := by k_fill; trivial
namespace Mine
section
variable {w : World} {pT : Program} {loose : List Str} {mean : ExcName → Option Value} {mg mb : Str → Option Value}
theorem fstr_call {x dx f fd lx : Addr} {items : List Value} {T₀ : Addr} {fw wd : Str} {ta tb : Tok} {sep : Str} {tsep : Tok} {ep : Nat} {hs : Int} {tk0 : Tok} {t0 : Tok} {n : Nat} {ps ps2 : Array Value} {parts : List (Str × Str)} {nw : List (Addr × Obj)} {f1 f2 f3 f4 f5 f6 : Int} {k1 k2 k3 k4 k5 k6 : Tok} {width : Int} {t1 t2 t3 t4 : Tok} {lines : List (Str × Tok)} {le : Nat} {dp un : Nat} {gd : Option (List Code)} {cn : Str} {cs : Scope} {a : Addr} {ccd : Value} {cl : List (Str × Addr)} {outer : List Env} {A₀ : Around} {base h₀ : Heap} {L : Addr} {m : Str → Option Value} {s : Shared} {Q E : Value → Shared → Prop}
    (B : Below A₀ base outer h₀) (F : Fr h₀ L s.heap m) (X : (Mine.hd.heap_39 w.params).In h₀) (T : Top pT loose mean mg mb h₀) (hk : cs.kind = .function)
    (hd1 : dp + 60 < recursionLimit) (hu : un + 200 < cLine) (G : AllBare s.gens) (d1 : Ap x dx) (d2 : Ap x 154) (d3 : Ap x 161) (d4 : Ap x f) (d5 : Ap x fd) (d6 : Ap x lx) (d7 : Ap dx 154) (d8 : Ap dx 161) (d9 : Ap dx f) (d10 : Ap dx fd) (d11 : Ap dx lx)
    (d12 : Ap lx 154) (d13 : Ap lx 161) (d14 : Ap lx f) (d15 : Ap lx fd) (d16 : Ap f 154) (d17 : Ap f 161) (d18 : Ap fd 154) (d19 : Ap fd 161)
    (o1 : ∀ p ∈ nw, @Ne Nat p.1 x) (o2 : ∀ p ∈ nw, @Ne Nat p.1 dx) (o3 : ∀ p ∈ nw, @Ne Nat p.1 154) (o4 : ∀ p ∈ nw, @Ne Nat p.1 161) (o5 : ∀ p ∈ nw, @Ne Nat p.1 lx)
    (N : News h₀ L s.heap ((x, accObj dx (items ++ [.ref T₀]) ep) :: (dx, dictOf [⟨hs, .str (Str.ofString "_initial_size") tk0, .int 0 t0⟩] n) :: (154, tabObj ps) :: (161, tabObj ps2) :: (f, instObj 108 fd) :: (fd, dictOf [⟨f1, .str (Str.ofString "_maxlen") k1, .int width t1⟩, ⟨f2, .str (Str.ofString "_continuation_ws") k2, .str (Str.ofString " ") t2⟩, ⟨f3, .str (Str.ofString "_continuation_ws_len") k3, .int 1 t3⟩, ⟨f4, .str (Str.ofString "_splitchars") k4, .str (Str.ofString " ") t4⟩, ⟨f5, .str (Str.ofString "_lines") k5, .ref lx⟩, ⟨f6, .str (Str.ofString "_current_line") k6, .ref x⟩] 6) :: (lx, W.listOf (strValues lines).toArray le) :: nw)) (ht : TriplesOk ps.toList) (ht2 : TriplesOk ps2.toList)
    (PA : PartsAre nw items parts) (hsz : items.length ≤ 800) (hlen : ∀ p ∈ parts, p.1.length ≤ 1000 ∧ p.2.length ≤ 1000) (hT : (T₀, tup2 fw ta wd tb) ∈ nw) (hfw : fw.length ≤ 1000) (hwd : wd.length ≤ 1000) (hwd0 : wd ≠ Str.ofString "") (hll : lines.length ≤ 800) (hpos : 0 < sumLen (parts ++ [(fw, wd)])) (hws : Txt.isspace (Txt.join (Str.ofString "") ((parts ++ [(fw, wd)]).map partStr)) = false)
    (hj : JoinOk sep (lines.map Prod.fst ++ [lineOf (parts ++ [(fw, wd)])]) = true)
    (hret : ∀ t' ps' ps2' h' g' tk', Fr h₀ L h' m → News h₀ L h' ((154, tabObj ps') :: (161, tabObj ps2') :: nw) → TriplesOk ps'.toList → TriplesOk ps2'.toList → AllBare g' → Q (.str (Txt.join sep (lines.map Prod.fst ++ [lineOf (parts ++ [(fw, wd)])])) t') ⟨h', g', s.drawn, tk', s.os⟩) :
    wpAny (model PySem.Challenge.pw_tc0044_01 w) (ktrTop dp un gd cn cs L a ccd cl outer) (call (.ref 56) [.ref f, .str sep tsep]) Q E s := by
  refine wpAny_call ?_
  k_dflt (refine' code_def (binds := [(Str.ofString "self", .ref f), (Str.ofString "linesep", .str sep tsep)]) ?k1 ?k2 ?k3 ?k4 ?k5 ?kA ?kF ?kK ?k6 ?k7 ?k8 ?k9 ?kB ?_ ?c2 ?c3 ?c4 ?c5; (case kA => exact rfl); (case kF => exact rfl); (case kK => assumption); (case k1 => k_asm); (case k2 => k_asm); (case k3 => k_asm); (case k4 => k_asm); (case k5 => k_asm); (case k6 => k_is); (case k7 => k_is); (case k8 => ktr_room); (case k9 => exact BindsTo.of_eq rfl); (case c5 => decide); (case kB => exact locs rfl); (case c2 => exact rfl); (case c3 => exact rfl); (case c4 => exact rfl); k_whole; intro g' L' h' FG' F' N' B' X' T'; (try dsimp only); (try k_lift B'); (try k_fold); (try k_sweep))
  repeat (first | with_reducible ((with_reducible show wpAny _ _ (call (Value.builtin "str.join") _) _ _ _); ((k_here; k_dflt (refine' SC.join (News.isList (by k_asm) (by k_mem)) rfl ?hj ?_; (case hj => rw [List.map_append]; assumption); intro t' k')))) | with_reducible ((with_reducible show wpAny _ _ (call (Value.ref _) _) _ _ _); ((k_here; k_dflt (refine' newline_call ?B ?F ?X ?T ?hk ?hd1 ?hu ?G d1 d2 d3 d4 d5 d6 d7 d8 d9 d10 d11 d12 d13 d14 d15 d16 d17 d18 d19 o1 o2 o3 o4 o5 ?N ?ht ?ht2 PA hsz hlen hT hfw hwd hwd0 hll hpos hws ?_; (case B => k_asm); (case F => k_asm); (case X => k_asm); (case T => k_asm); (case hk => rfl); (case hd1 => ktr_room); (case hu => ktr_units); (case G => assumption); (case N => k_asm); (case ht => assumption); (case ht2 => assumption); intro ep₁ t₁ le₁ nw₁ ps₁ ps₂ h₁ g₁ tk₁ t₂ F₁ N₁ hnw hT₁ hT₂ hG; (try k_sweep))))) | walk1)
  (with_reducible rename Fr h₀ L _ m => F₈)
  (with_reducible rename News h₀ L _ _ => N₈)
  rw [List.map_append]
  refine hret _ ps₁ ps₂ _ _ _ F₈ (news_sub N₈ ?_) hT₁ hT₂ hG
  intro q hq
  simp only [List.mem_cons] at hq ⊢
  rcases hq with h | h | h
  · simp [h]
  · simp [h]
  · have := hnw q h
    simp [this]
end
end Mine
end
example : True ∧ True := by first | (w_top off; walk1; done) | exact ⟨trivial, trivial⟩
section
open PySem PySem.W PySem.Spec PySem.Calls PyProof.Rows Builtin Builtin.ObjectAttr
example : (fun (_ : OpenLaw) (_ : Params → Frag) => True) PySem.Challenge.rw_tc0044_01 Mine.hd.heap_39 := by k_fill; trivial
namespace Mine
noncomputable def makesList (K : Frag) (C : Addr) : Bool := match K.lookup C with
  | some ⟨_, _, .cls cd, sl⟩ => !cd.abstract && !cd.hasDel && (sl.toList[4]?).join == some (.builtin "list.__new__") && !cd.mro.isEmpty && cd.mro.contains (.ref C) && cd.mro.contains (.type "list") &&
      specialIn K (.ref C) "__call__" == some (some (.builtin "type.__call__")) && instIn K (.ref C) (.type "type") == some true
  | _ => false
theorem makesList_192 (P : Params) : makesList (hd.heap_39 P) 192 = true := by kernel_rfl
structure MakesL (M : Model) (h : Heap) (C : Addr) : Prop where
  obj : ∃ oc od cd sl, h.get? C = some ⟨oc, od, .cls cd, sl⟩ ∧ cd.abstract = false ∧ cd.hasDel = false ∧ cd.mro.isEmpty = false
  made : Looks M h (Bind.madeBy (.ref C)) (some "list.__new__")
  base : Looks M h (Bind.staticBase (.ref C)) (.ref C)
  self : Looks M h (isSubtype (.ref C) (.ref C)) true
  top : Looks M h (isSubtype (.ref C) (.type "list")) true
  call : Looks M h (specialOf (.ref C) "__call__") (some (.builtin "type.__call__"))
  typ : Looks M h (isInstance (.ref C) (.type "type")) true
theorem makesL_of {K : Frag} {M : Model} {h : Heap} (X : K.In h) {C : Addr} (e : makesList K C = true) : MakesL M h C := by
  unfold makesList at e
  split at e
  · rename_i oc od cd sl ho
    simp only [Bool.and_eq_true, Bool.not_eq_true', beq_iff_eq] at e
    obtain ⟨⟨⟨⟨⟨⟨⟨e1, e2⟩, e3⟩, e4⟩, e5⟩, e6⟩, e7⟩, e8⟩ := e
    have hc : clsIn K C = some cd := by unfold clsIn; rw [ho]
    have hm : Looks M h (mroOf (.ref C)) cd.mro := (looks_clsIn X hc).andThen .now
    obtain ⟨c, l, hl⟩ : ∃ c l, cd.mro = c :: l := by cases q : cd.mro with | nil => rw [q] at e4; cases e4 | cons c l => exact ⟨c, l, rfl⟩
    have made : Looks M h (Bind.madeBy (.ref C)) (some "list.__new__") := by
      intro A Q E s k q
      unfold Bind.madeBy
      refine wpAny_bind (hm A _ E s k ?_)
      rw [hl, List.forIn_cons]
      refine wpAny_bind (wpAny_bind (wpAny_bind (wpAny_bind (wpAny_loadPart (k _ _ (X _ _ ho)) (wpAny_pure ?_)))))
      dsimp only
      rw [← Array.getElem?_toList, e3]
      exact wpAny_pure (wpAny_pure (wpAny_pure q))
    refine ⟨⟨oc, od, cd, sl, X _ _ ho, e1, e2, e4⟩, made, ?_, looks_mroIn X ?_, looks_mroIn X ?_, looks_specialIn X e7, looks_instIn X e8⟩
    · intro A Q E s k q
      unfold Bind.staticBase
      refine wpAny_bind (hm A _ E s k ?_)
      rw [hl, List.forIn_cons]
      exact wpAny_bind (wpAny_bind (wpAny_bind (made A _ E s k (wpAny_pure (wpAny_pure (wpAny_pure q))))))
    · unfold mroIn; rw [hc, Option.bind_some, if_neg (by rw [e4]; decide), e5]
    · unfold mroIn; rw [hc, Option.bind_some, if_neg (by rw [e4]; decide), e6]
  · cases e
theorem kind_lnew : builtinKind "list.__new__" = some .builtinFn := by decide +kernel
theorem split_lnew : splitId "list.__new__" = some ("list", "__new__") := by decide +kernel
theorem quiet_lnew (a : Args) : (Code.builtin "list.__new__" a).quiet = true := plainId_quiet F.plain_list_new _
theorem sig_lnew (args : Args) : argsOk "list.__new__" ⟨args.pos, args.kw⟩ := by unfold argsOk; kernel_rfl
section
variable {prog : Program} {w : World} {pT : Program} {A : Around} {K : Frag} {C : Addr} {R : Result → Shared → Prop} {h : Heap} {g : Array GenState} {d : Drawn} {t : Nat} {os : OsState}
noncomputable abbrev accNew (C dx : Addr) : Obj := { cls := .ref C, dict := some dx, data := .seq #[] 0 }
theorem new_L {rest : List Value} {kw : List (Str × Value)} (Y : MakesL (model prog w) h C)
    (hq : R (.ok (.ret (.ref (h.objs.size + 1)))) ⟨(h.push emptyDict).push (accNew C h.objs.size), g, d, t, os⟩) :
    codeAny (model prog w) A (.call (.builtin "list.__new__") ⟨.ref C :: rest, kw⟩) R ⟨h, g, d, t, os⟩ := by
  obtain ⟨⟨oc, od, cd, sl, hC, e1, e2, e4⟩, made, base, self, top, call, typ⟩ := Y
  have isT : Looks (model prog w) h (isType (.ref C)) true := (Looks.ld (part := some headPart) hC).andThen .now
  refine codeAny_of_tree ?_
  show wpAny _ A.in1 (do checkBuiltinCall "list.__new__" ⟨.ref C :: rest, kw⟩; again (.builtin "list.__new__" ⟨.ref C :: rest, kw⟩)) _ _ _
  simp only [checkBuiltinCall, kind_lnew, split_lnew]
  repeat lk
  refine ⟨quiet_lnew _, codeAny_builtin_stack PySem.F.entry_list_new rfl fun p st => ?_⟩
  have hown := owner_list_new
  have hC2 : (h.push emptyDict).get? C = some ⟨oc, od, .cls cd, sl⟩ := Heap.get?_push_of_some _ hC
  simp only [hown]
  repeat lk
  refine wpAny_load (Heap.get?_push_of_some _ hC2) ?_
  refine wpAny_pure ?_
  rw [e2]
  refine wpAny_pure (wpAny_pure ?_)
  show R _ _
  rw [Heap.size_push]
  exact hq
theorem make_coreL {rest : List Value} {kw : List (Str × Value)} {init : Value} (Y : MakesL (model prog w) h C) (hi : Looks (model prog w) h (typeLookup (.ref C) "__init__") (some init))
    (hb : ∀ self, Looks (model prog w) h (bindSpecial init self) (init, [self]))
    (hq : codeAny (model prog w) (A.under (.builtin "type.__call__" ⟨.ref C :: rest, kw⟩)) (.call init ⟨.ref (h.objs.size + 1) :: rest, kw⟩) (InitBack (h.objs.size + 1) R) ⟨(h.push emptyDict).push (accNew C h.objs.size), g, d, t, os⟩) :
    codeAny (model prog w) A (.call (.ref C) ⟨rest, kw⟩) R ⟨h, g, d, t, os⟩ := by
  have Y' := Y
  obtain ⟨⟨oc, od, cd, sl, hC, e1, e2, e4⟩, made, base, self, top, call, typ⟩ := Y
  refine codeAny_of_tree ?_
  show wpAny _ _ (callAny (.ref C) _) _ _ _
  refine nd_load hC ?_
  show wpAny _ _ (callAny.viaDunder (.ref C) _) _ _ _
  unfold callAny.viaDunder
  refine wpAny_bind (call.at ?_)
  dsimp only
  rw [tc_bind]
  refine wpAny_bind (wpAny_pure (wpAny_bind (wpAny_pure ?_)))
  refine wpAny_pure (a := Fin.again (.call (.builtin "type.__call__") ⟨.ref C :: rest, kw⟩)) (And.intro rfl ?_)
  refine codeAny_call_builtin_at (Code.quiet_builtin _ (by decide +kernel)) entry_typeCall (check_slot tc_kind tc_split typ (tc_args _ _ _) ?_)
  unfold Builtin.«type.__call__»
  have hm : Looks (model prog w) h (mroOf (.ref C)) cd.mro := ((Looks.ld (part := none) hC).andThen .now).andThen .now
  repeat (first | simp only [e4, Bool.false_eq_true, if_false] | with_reducible refine wpAny_call ?_ | lk)
  refine new_L Y' ?_
  have k : ∀ b o, h.get? b = some o → ((h.push emptyDict).push (accNew C h.objs.size)).get? b = some o := fun b o e => Heap.get?_push_of_some _ (Heap.get?_push_of_some _ e)
  have hx : ((h.push emptyDict).push (accNew C h.objs.size)).get? (h.objs.size + 1) = some (accNew C h.objs.size) := by heap_get
  have t1 : Looks (model prog w) ((h.push emptyDict).push (accNew C h.objs.size)) (typeOf (.ref (h.objs.size + 1))) (.ref C) := (Looks.ld hx).andThen .now
  have s1 := self.keeps k
  have i1 := hi.keeps k
  have b1 := (hb (.ref (h.objs.size + 1))).keeps k
  unfold isInstance callSpecial? specialOf
  repeat (first | with_reducible refine wpAny_call ?_ | lk)
  refine codeAny_mono hq fun r s' z => ?_
  rcases r with e | (v | _ | _ | _) <;> first | exact z | exact z.elim | skip
  obtain ⟨rfl, z⟩ := z
  exact wpAny_pure (wpAny_pure z)
end
section
variable {prog : Program} {w : World} {pT : Program} {A : Around} {E : Value → Shared → Prop} {K : Frag} {C x : Addr} {s : Shared} {h₀ : Heap} {L : Addr} {m : Str → Option Value} {news : List (Addr × Obj)} {Q : Value → Shared → Prop}
theorem call_clsL {pos : List Value} {kw : List (Str × Value)} {fI : Addr} (F : Fr h₀ L s.heap m) (X₀ : K.In h₀) (N : News h₀ L s.heap news) (hm : makesList K C = true)
    (hi : findIn K (.ref C) "__init__" = some (some (.ref fI))) (hf : isFn K (.ref fI) = true)
    (h : ∀ x dx h', Fr h₀ L h' m → News h₀ L h' ((x, accNew C dx) :: (dx, dictOf [] 0) :: news) → (∀ p ∈ news, p.1 < dx) → dx < x →
      codeAny (model prog w) (A.under (.builtin "type.__call__" ⟨.ref C :: pos, kw⟩)) (.call (.ref fI) ⟨.ref x :: pos, kw⟩) (InitBack x fun r s' => match r with | .ok (.ret v) => Q v s' | .ok _ => False | .error e => E e s') { s with heap := h' }) :
    wpAny (model prog w) A (call (.ref C) pos kw) Q E s := by
  have X := X₀.keeps F.keep
  obtain ⟨hh, g, d, t, os⟩ := s
  refine wpAny_call (make_coreL (makesL_of X hm) (looks_findIn X hi) (fun self => bind_fn X self (beq_iff_eq.mp hf)) (h _ hh.objs.size _ ((F.push _).push _) ?_ (fun p hp => Heap.lt_size (N p hp).1) (Nat.lt_succ_self _)))
  have := (N.push F emptyDict).push (F.push _) (accNew C hh.objs.size)
  rwa [Heap.size_push] at this
end
end Mine
end
example : True ∧ True := by first | (w_top off; walk1; done) | exact ⟨trivial, trivial⟩
section
open PySem PySem.W PySem.Spec PySem.Calls PyProof.Rows Builtin Builtin.ObjectAttr
example : (fun (_ : OpenLaw) (_ : Params → Frag) => True) PySem.Challenge.rw_tc0044_01 Mine.hd.heap_39 := by k_fill; trivial
namespace Mine
theorem canon_init_type : typeOf (.builtin "list.__init__") = pure (.type "wrapper_descriptor") := by show builtinType _ = _; rw [builtinType_eq_fast]; kernel_rfl
theorem owner_init : (".".intercalate ("list.__init__".cutAt '.').dropLast) = "list" := by decide +kernel
theorem check_init (a : Value) : checkBoundCall "list.__init__" ⟨[a], []⟩ = pure () := by
  unfold checkBoundCall
  kernel_rfl
section
variable {prog : Program} {w : World} {pT : Program} {M : Model} {A : Around} {E : Value → Shared → Prop} {h : Heap} {g : Array GenState} {d : Drawn} {t : Nat} {os : OsState}
theorem get_init {x C : Addr} {Q : Value → Shared → Prop} (hi : Looks (model prog w) h (isInstance (.ref x) (.type "list")) true)
    (hq : Q (.ref h.objs.size) ⟨h.push { cls := .type "method-wrapper", data := .fields #[.builtin "list.__init__", .ref x] }, g, d, t, os⟩) :
    wpAny (model prog w) A (call (.builtin "wrapper_descriptor.__get__") [.builtin "list.__init__", .ref x, .ref C]) Q E ⟨h, g, d, t, os⟩ := by
  have hiI : Looks (model prog w) h (isInstance (.ref x) (.type (".".intercalate ("list.__init__".cutAt '.').dropLast))) true := by rw [owner_init]; exact hi
  refine wpAny_call_entry SF.slot_wd canon_init_type SF.entry_wd ?_ (SF.args_wd _ _ _)
  unfold Builtin.«wrapper_descriptor.__get__»
  repeat (first | (with_reducible refine Looks.at hiI ?_) | lk | wp_step)
  exact ⟨_, rfl, hq⟩
end
section
variable {prog : Program} {w : World} {pT : Program} {A : Around} {E : Value → Shared → Prop} {s : Shared} {K : Frag} {x dx L so q : Addr} {h₀ : Heap} {m : Str → Option Value} {items : List Value} {ep : Nat} {od : Obj} {news news' : List (Addr × Obj)} {v : Value}
theorem super_init {pl : Sem Bool} {Q : Value × List Value → Shared → Prop} (F : Fr h₀ L s.heap m) (X₀ : K.In h₀) (N : News h₀ L s.heap news) (hso : (so, ks_superObj 192 x 192) ∈ news) (I : InstAt s.heap x (accObj dx items ep) 192 (some od)) (ho : nsIn K cStatics "thirdparty.any" = some none)
    (hm : ks_superIn K 192 192 (Str.ofString "__init__") = some (some (.builtin "list.__init__"))) (hsub : subIn K (.ref 192) (.type "list") = some true)
    (h : ∀ q h', Fr h₀ L h' m → News h₀ L h' ((q, wrapObj "method-wrapper" "list.__init__" x) :: news) → (∀ p ∈ news, p.1 < q) → Q (.ref q, []) { s with heap := h', toks := s.toks + 1 }) :
    wpAny (model prog w) A (getMethod (.ref so) (Str.ofString "__init__") pl) Q E s := by
  have X : K.In s.heap := X₀.keeps F.keep
  obtain ⟨hh, g, d, t, os⟩ := s
  have hi := isSub (M := model prog w) X I hsub
  unfold ks_superIn at hm
  obtain ⟨cd, hc, hm⟩ := Option.bind_eq_some_iff.mp hm
  have N2 := N.push F (wrapObj "method-wrapper" "list.__init__" x)
  refine super_bi (q := hh.objs.size) (h' := hh.push (wrapObj "method-wrapper" "list.__init__" x)) (N _ hso).1 (looks_opaque X ho) (l₀ := cd.mro) ?_ rfl X hm canon_init_type SF.slot_wd.lookup (ks_ne X I hc) (by decide) (fun hq => get_init hi hq) ?_
  · exact fun A Q E s k q => wpAny_bind ((looks_clsIn X hc) A _ E s k (wpAny_pure q))
  · exact h _ _ (F.push _) N2 (fun p hp => Heap.lt_size (N p hp).1)
theorem call_W_init {Q : Value → Shared → Prop} (F : Fr h₀ L s.heap m) (N : News h₀ L s.heap news) (hq : (q, wrapObj "method-wrapper" "list.__init__" x) ∈ news) (U : Upd x (accObj dx [] ep) (accObj dx [] ep) news news')
    (h : ∀ h', Fr h₀ L h' m → News h₀ L h' news' → Q .none { s with heap := h' }) : wpAny (model prog w) A (call (.ref q) []) Q E s := by
  refine wpAny_call (codeAny_of_tree ?_)
  show wpAny _ A.in1 (callAny (.ref q) ⟨[], []⟩) _ _ _
  unfold callAny
  refine wpAny_bind (wpAny_load (N _ hq).1 ?_)
  dsimp only
  rw [if_pos (by decide)]
  show wpAny _ _ (checkBoundCall "list.__init__" ⟨[.ref x], []⟩ >>= fun _ => again (.builtin "list.__init__" ⟨[.ref x], []⟩)) _ _ _
  rw [check_init]
  refine wpAny_bind (wpAny_pure (wpAny_pure ⟨Code.quiet_builtin _ (by decide +kernel), ?_⟩))
  refine codeAny_builtin PySem.F.entry_list_init ?_
  have ho := (N _ (upd_mem U)).1
  unfold Builtin.«list.__init__»
  show wpAny _ _ (Builtin.List.listItems (.ref x) >>= _) _ _ s
  unfold Builtin.List.listItems
  refine wpAny_bind (wpAny_bind (wpAny_seqItems ho rfl (wpAny_pure ?_)))
  show wpAny _ _ (updateSeq x (fun _ => #[]) >>= _) _ _ s
  refine wpAny_bind ?_
  refine wpAny_updateSeq (xs := ([] : List Value).toArray) (n := ep) ho rfl (wpAny_bind ?_) (by exact Nat.zero_le _) (by exact Nat.zero_le _)
  refine wpAny_letGo (wpAny_pure ?_)
  obtain ⟨pre, post, rfl, rfl, p1, p2⟩ := U.split
  have e : Obj.mapSeq (fun _ => #[]) (accObj dx [] ep) = accObj dx [] ep := by
    show (_ : Obj) = _
    unfold Obj.mapSeq
    simp
  obtain ⟨F', N'⟩ := news_upd F N p1 p2 e rfl
  exact h _ F' N'
end
end Mine
end
example : True ∧ True := by first | (w_top off; walk1; done) | exact ⟨trivial, trivial⟩
section
open PySem PySem.W PySem.Spec PySem.Calls PyProof.Rows Builtin Builtin.ObjectAttr
example : (fun (_ : OpenLaw) (_ : Params → Frag) => True) PySem.Challenge.rw_tc0044_01 Mine.hd.heap_39 := by k_fill; trivial
namespace Mine
theorem put_new {h : Int} {k v : Value} : (putL (Str.ofString "_initial_size") h k v [], putN (Str.ofString "_initial_size") [] 0) = ([⟨h, k, v⟩], 1) := by kernel_rfl
local macro_rules | `(tactic| k_put) => `(tactic| exact put_new)
section
variable {w : World} {pT : Program} {loose : List Str} {mean : ExcName → Option Value} {mg mb : Str → Option Value}
theorem newacc_call {t0 : Tok} {nw : List (Addr × Obj)} {dp un : Nat} {gd : Option (List Code)} {cn : Str} {cs : Scope} {a : Addr} {ccd : Value} {cl : List (Str × Addr)} {outer : List Env} {A₀ : Around} {base h₀ : Heap} {L : Addr} {m : Str → Option Value} {s : Shared} {Q E : Value → Shared → Prop}
    (B : Below A₀ base outer h₀) (F : Fr h₀ L s.heap m) (X : (Mine.hd.heap_39 w.params).In h₀) (T : Top pT loose mean mg mb h₀) (hk : cs.kind = .function)
    (hd1 : dp + 8 < recursionLimit) (N : News h₀ L s.heap nw)
    (hret : ∀ x dx hs tk0 h' tk', Fr h₀ L h' m → News h₀ L h' ((x, accObj dx [] 0) :: (dx, dictOf [⟨hs, .str (Str.ofString "_initial_size") tk0, .int 0 t0⟩] 1) :: nw) → (∀ p ∈ nw, p.1 < dx) → @LT.lt Nat _ dx x → Q (.ref x) ⟨h', s.gens, s.drawn, tk', s.os⟩) :
    wpAny (model PySem.Challenge.pw_tc0044_01 w) (ktrTop dp un gd cn cs L a ccd cl outer) (call (.ref 192) [.int 0 t0]) Q E s := by
  refine call_clsL (fI := 129) F X N (makesList_192 _) (by k_is) (by k_is) ?_
  intro x dx h₁ F₁ N₁ l₁ l₂
  have l₃ := allLt_of l₁
  have l₄ := ltN l₂
  have o1 : ∀ p ∈ nw, @Ne Nat p.1 x := fun p hp => Nat.ne_of_lt (Nat.lt_trans (l₁ p hp) l₂)
  have o2 : ∀ p ∈ nw, @Ne Nat p.1 dx := fun p hp => Nat.ne_of_lt (l₁ p hp)
  clear F N
  k_dflt (refine' ks_code_super (binds := [(Str.ofString "self", .ref x), (Str.ofString "initial_size", .int 0 t0)]) ?k1 ?k2 ?k3 ?k4 ?k5 ?kA ?kF ?kK ?k6 ?k7 ?k8 ?k9 ?kB ?_ ?c1 ?c2 ?c3 ?c4; (case kA => exact rfl); (case kF => exact rfl); (case kK => assumption); (case k1 => k_asm); (case k2 => k_asm); (case k3 => k_asm); (case k4 => k_asm); (case k5 => k_asm); (case k6 => k_is); (case k7 => k_is); (case k8 => ktr_room); (case k9 => exact binds_K (by k_in) rfl (by k_is) rfl rfl rfl); (case kB => exact locs rfl); (case c1 => decide); (case c2 => exact rfl); (case c3 => exact rfl); (case c4 => exact rfl); intro g' L' h' FG' F' N' B' X' T' l1; (try k_lt l1); (try dsimp only); (try k_lift B'); (try k_fold))
  iterate 6 (first | with_reducible ((with_reducible show wpAny _ _ (setAttr (Value.ref _) _ _) _ _ _); ((k_here; k_dflt (refine' set_A ?k1 ?k2 ?k3 ?k4 ?k5 ?k6 ?k7 ?k8 ?k9 ?k10 ?k11 ?k12 ?k13 ?_; (case k1 => k_asm); (case k2 => k_asm); (case k3 => k_asm); (case k4 => k_inst); (case k5 => k_is); (case k6 => rfl); (case k7 => rfl); (case k8 => k_is); (case k9 => k_is); (case k10 => rfl); (case k11 => k_put); (case k12 => k_upd); (case k13 => first | decide | (simp; done) | lia); k_whole; intro h' F' N')))) | walk1)
  dsimp only
  walk1
  k_dflt (refine ks_wpAt_Expr_any ?_)
  k_dflt (refine ks_wpAt_MethodCall ?_)
  (repeat' (first | (k_unfold; (try dsimp only)) | (k_end; wrow_close) | (first | with_reducible ((with_reducible show wpAny _ _ (call (Value.ref _) _) _ _ _); ((k_here; k_dflt (refine' call_W_init ?k1 ?k2 ?k3 ?k4 ?_; (case k1 => k_asm); (case k2 => k_asm); (case k3 => k_mem); (case k4 => k_upd); k_whole; intro h' F' N')))) | with_reducible ((with_reducible show wpAny _ _ (callWith _ (Value.ref _) _ _ _) _ _ _); ((k_here; k_dflt (refine' callWith_W' ?k1 ?k2 ?k3 ?_; (case k2 => k_asm); (case k3 => k_mem); (case k1 => first | exact .inl rfl | exact .inr rfl); k_whole)))) | with_reducible ((with_reducible show wpAny _ _ (getMethod (Value.ref _) _ _) _ _ _); ((k_here; k_dflt (refine' super_init ?k1 ?k2 ?k3 ?k4 ?k5 ?k6 ?k7 ?k8 ?_; (case k1 => k_asm); (case k2 => k_asm); (case k3 => k_asm); (case k4 => k_mem); (case k5 => k_inst); (case k6 => k_is); (case k7 => ks_is); (case k8 => k_is); intro q' h' F' N' l1; (try k_lt l1))))) | walk1) | dsimp only | (leave1; try dsimp only)))
  (with_reducible rename Fr h₀ L _ m => F₈)
  (with_reducible rename News h₀ L _ _ => N₈)
  exact hret x dx _ _ _ _ F₈ (fun q hq => N₈ q (.tail _ (.tail _ hq))) l₁ l₂
end
end Mine
end
example : True ∧ True := by first | (w_top off; walk1; done) | exact ⟨trivial, trivial⟩
section
open PySem PySem.W PySem.Spec PySem.Calls PyProof.Rows Builtin Builtin.ObjectAttr
example : (fun (_ : OpenLaw) (_ : Params → Frag) => True) PySem.Challenge.rw_tc0044_01 Mine.hd.heap_39 := by k_fill; trivial
namespace Mine
theorem perm5 {h₀ h : Heap} {L : Addr} {a b c d e : Addr × Obj} {nw : List (Addr × Obj)} (N : News h₀ L h (a :: b :: c :: d :: e :: nw)) : News h₀ L h (a :: b :: d :: e :: c :: nw) :=
  List.forall_mem_cons.mpr ⟨N _ (.head _), List.forall_mem_cons.mpr ⟨N _ (.tail _ (.head _)), List.forall_mem_cons.mpr ⟨N _ (.tail _ (.tail _ (.tail _ (.head _)))), List.forall_mem_cons.mpr ⟨N _ (.tail _ (.tail _ (.tail _ (.tail _ (.head _))))), List.forall_mem_cons.mpr ⟨N _ (.tail _ (.tail _ (.head _))), fun q hq => N q (.tail _ (.tail _ (.tail _ (.tail _ (.tail _ (hq))))))⟩⟩⟩⟩⟩
section
variable {w : World} {pT : Program} {loose : List Str} {mean : ExcName → Option Value} {mg mb : Str → Option Value}
theorem newfmt_call {width : Int} {t0 t1 t2 t4 : Tok} {nw : List (Addr × Obj)} {dp un : Nat} {gd : Option (List Code)} {cn : Str} {cs : Scope} {a : Addr} {ccd : Value} {cl : List (Str × Addr)} {outer : List Env} {A₀ : Around} {base h₀ : Heap} {L : Addr} {m : Str → Option Value} {s : Shared} {Q E : Value → Shared → Prop}
    (B : Below A₀ base outer h₀) (F : Fr h₀ L s.heap m) (X : (Mine.hd.heap_39 w.params).In h₀) (T : Top pT loose mean mg mb h₀) (hk : cs.kind = .function)
    (hd1 : dp + 20 < recursionLimit) (N : News h₀ L s.heap nw)
    (hret : ∀ x dx lx f fd hs tk0 h' tk' f1 f2 f3 f4 f5 f6 k1 k2 k3 k4 k5 k6 t3, Fr h₀ L h' m → News h₀ L h' ((x, accObj dx [] 0) :: (dx, dictOf [⟨hs, .str (Str.ofString "_initial_size") tk0, .int 0 t0⟩] 1) :: (f, instObj 108 fd) :: (fd, dictOf [⟨f1, .str (Str.ofString "_maxlen") k1, .int width t1⟩, ⟨f2, .str (Str.ofString "_continuation_ws") k2, .str (Str.ofString " ") t2⟩, ⟨f3, .str (Str.ofString "_continuation_ws_len") k3, .int 1 t3⟩, ⟨f4, .str (Str.ofString "_splitchars") k4, .str (Str.ofString " ") t4⟩, ⟨f5, .str (Str.ofString "_lines") k5, .ref lx⟩, ⟨f6, .str (Str.ofString "_current_line") k6, .ref x⟩] 6) :: (lx, W.listOf (strValues []).toArray 0) :: nw) → (∀ p ∈ nw, p.1 < fd) → @LT.lt Nat _ fd f → @LT.lt Nat _ f lx → @LT.lt Nat _ lx dx → @LT.lt Nat _ dx x → Q (.ref f) ⟨h', s.gens, s.drawn, tk', s.os⟩) :
    wpAny (model PySem.Challenge.pw_tc0044_01 w) (ktrTop dp un gd cn cs L a ccd cl outer) (call (.ref 108) [.int 0 t0, .int width t1, .str (Str.ofString " ") t2, .str (Str.ofString " ") t4]) Q E s := by
  refine call_cls (fI := 49) F X N (by k_is) (by k_is) (by k_is) ?_
  intro f fd h₁ F₁ N₁ l₁ l₂
  have l₅ := allLt_of l₁
  have l₆ := ltN l₂
  have o1 : ∀ p ∈ nw, @Ne Nat p.1 f := fun p hp => Nat.ne_of_lt (Nat.lt_trans (l₁ p hp) l₂)
  have o2 : ∀ p ∈ nw, @Ne Nat p.1 fd := fun p hp => Nat.ne_of_lt (l₁ p hp)
  clear F N
  k_dflt (refine' code_def (binds := [(Str.ofString "self", .ref f), (Str.ofString "headerlen", .int 0 t0), (Str.ofString "maxlen", .int width t1), (Str.ofString "continuation_ws", .str (Str.ofString " ") t2), (Str.ofString "splitchars", .str (Str.ofString " ") t4)]) ?k1 ?k2 ?k3 ?k4 ?k5 ?kA ?kF ?kK ?k6 ?k7 ?k8 ?k9 ?kB ?_ ?c2 ?c3 ?c4 ?c5; (case kA => exact rfl); (case kF => exact rfl); (case kK => assumption); (case k1 => k_asm); (case k2 => k_asm); (case k3 => k_asm); (case k4 => k_asm); (case k5 => k_asm); (case k6 => k_is); (case k7 => k_is); (case k8 => ktr_room); (case k9 => exact BindsTo.of_eq rfl); (case c5 => decide); (case kB => exact locs rfl); (case c2 => exact rfl); (case c3 => exact rfl); (case c4 => exact rfl); k_whole; intro g' L' h' FG' F' N' B' X' T'; (try dsimp only); (try k_lift B'); (try k_fold); (try k_sweep))
  repeat (first | with_reducible ((with_reducible show wpAny _ _ (call (Value.ref _) _) _ _ _); ((k_here; k_dflt (refine' newacc_call ?B ?F ?X ?T ?hk ?hd1 ?N ?_; (case B => k_asm); (case F => k_asm); (case X => k_asm); (case T => k_asm); (case hk => rfl); (case hd1 => ktr_room); (case N => k_asm); intro x dx hs₁ tk₁ h₁ tk₂ F₁ N₁ l₃ l₄; (try k_lt l₃))))) | walk1)
  (with_reducible rename Fr h₀ L _ m => F₈)
  (with_reducible rename News h₀ L _ _ => N₈)
  (with_reducible rename @LT.lt Nat _ f _ ∧ _ => l₇)
  exact hret x dx _ f fd _ _ _ _ _ _ _ _ _ _ _ _ _ _ _ _ _ F₈ (perm5 N₈) l₁ l₂ l₇.1 l₃.1 l₄
end
end Mine
end
section
open PySem PySem.W PySem.Spec PySem.Calls PyProof.Rows Builtin Builtin.ObjectAttr
namespace Mine
noncomputable abbrev enumO (it : Addr) (i : Int) (old : Value) : Obj := { cls := .type "enumerate", dict := none, data := .fields #[.none, .bool false, .ref it, rawInt i, .none, old], slots := #[] }
noncomputable def LIterO (o : Obj) (l : Addr) (i : Nat) : Prop := o.cls = .type "list_iterator" ∧ o.data = .fields #[.ref l, .int i 0]
section
variable {prog : Program} {w : World} {A : Around} {E : Value → Shared → Prop} {s : Shared} {env : Env} {L e it l : Addr} {h₀ : Heap} {m : Str → Option Value} {news news' : List (Addr × Obj)} {items : List Value} {nl : Nat}
theorem enum_led {Q : Value → Shared → Prop} (F : Fr h₀ L s.heap m) (N : News h₀ L s.heap news) (hl : (l, W.listOf items.toArray nl) ∈ news)
    (h : ∀ e it oi h', LIterO oi l 0 → Fr h₀ L h' m → News h₀ L h' ((e, enumO it 0 .none) :: (it, oi) :: news) → (∀ p ∈ news, p.1 < it) → @LT.lt Nat _ it e → Q (.ref e) { s with heap := h' }) :
    wpAny (model prog w) A (call (.type "enumerate") [.ref l]) Q E s := by
  refine call_enumerate_list ⟨_, (N _ hl).1, rfl, nl, rfl⟩ fun h' hE hI hz hk => ?_
  obtain ⟨oi, g1, g2, g3⟩ := hI
  have hL := F.ns.lt
  have fresh : ∀ b, s.heap.objs.size ≤ b → h₀.get? b = none := fun b hb => by
    cases z : h₀.get? b with
    | none => rfl
    | some o => exact absurd (Heap.lt_size (F.keep _ _ z)) (Nat.not_lt.mpr hb)
  refine h _ _ oi h' ⟨g2, g3⟩ (fr_up F hk) ?_ (newsLt N) (Nat.lt_succ_self _)
  refine news_cons (news_cons (fun q hq => ⟨hk _ _ (N q hq).1, (N q hq).2⟩) g1 (Ne.symm (Nat.ne_of_lt hL)) (fresh _ (Nat.le_refl _))) hE (Ne.symm (Nat.ne_of_lt (Nat.lt_succ_of_lt hL))) (fresh _ (Nat.le_succ _))
inductive StepG (h₀ : Heap) (L : Addr) (keep : List (Addr × Obj)) (e it l : Addr) (J : (Str → Option Value) → List (Addr × Obj) → Array GenState → Prop) (d : Drawn) (os : OsState) (f : Flow) (s₃ : Shared) : Prop
  | mk (h1 : (f = .next ∨ f = .cont)) h₃ g₃ tk₃ m₃ news₃ all₃ (h2 : s₃ = ⟨h₃, g₃, d, tk₃, os⟩) (h3 : Fr h₀ L h₃ m₃) (h4 : News h₀ L h₃ all₃) (h5 : (∀ p ∈ keep, p ∈ all₃)) (h6 : (∀ p ∈ news₃, p ∈ all₃ ∧ @Ne Nat p.1 e ∧ @Ne Nat p.1 it ∧ @Ne Nat p.1 l)) (h7 : J m₃ news₃ g₃) : StepG h₀ L keep e it l J d os f s₃
inductive EnumInv (h₀ : Heap) (L : Addr) (d : Drawn) (os : OsState) (e it l : Addr) (items : List Value) (nl : Nat) (J : Nat → (Str → Option Value) → List (Addr × Obj) → Array GenState → Prop) (k : Nat) (s' : Shared) : Prop
  | mk (h' : Heap) (g' : Array GenState) (tk : Nat) (m' : Str → Option Value) (news' : List (Addr × Obj)) (i : Nat) (old : Value) (oi : Obj) (h1 : s' = ⟨h', g', d, tk, os⟩) (h2 : LIterO oi l i) (h3 : Fr h₀ L h' m') (h4 : News h₀ L h' ((e, enumO it ((i : Nat) : Int) old) :: (it, oi) :: (l, W.listOf items.toArray nl) :: news'))
      (h5 : ∀ p ∈ news', @Ne Nat p.1 e ∧ @Ne Nat p.1 it ∧ @Ne Nat p.1 l) (h6 : J i m' news' g') (h7 : i ≤ items.length) (h8 : k = items.length + 1 - i) : EnumInv h₀ L d os e it l items nl J k s'
inductive EnumSrc (prog : Program) (w : World) (A : Around) (E : Value → Shared → Prop) (env : Env) (h₀ : Heap) (xi xv : Str) (body : List Stmt) (Q : Flow → Shared → Prop) (xv' : Value) (s₁ : Shared) : Prop
  | mk (e it l : Addr) (oi : Obj) (items : List Value) (nl : Nat) (m : Str → Option Value) (news : List (Addr × Obj)) (h1 : xv' = .ref e) (J : Nat → (Str → Option Value) → List (Addr × Obj) → Array GenState → Prop) (h2 : LIterO oi l 0) (h3 : Fr h₀ env.locals s₁.heap m) (h4 : News h₀ env.locals s₁.heap ((e, enumO it 0 .none) :: (it, oi) :: (l, W.listOf items.toArray nl) :: news)) (h5 : @Ne Nat e it) (h6 : @Ne Nat l e) (h7 : @Ne Nat l it) (h8 : (∀ p ∈ news, @Ne Nat p.1 e ∧ @Ne Nat p.1 it ∧ @Ne Nat p.1 l)) (h9 : J 0 m news s₁.gens) (h10 : (∀ i v m₁ news₁ g₁ h₁ tk tk₁ oi', items[i]? = some v → LIterO oi' l (i + 1) → J i m₁ news₁ g₁ → (∀ p ∈ news₁, @Ne Nat p.1 e ∧ @Ne Nat p.1 it ∧ @Ne Nat p.1 l) → Fr h₀ env.locals h₁ (fun y => if y = xv then some v else if y = xi then some (.int i tk) else m₁ y) → News h₀ env.locals h₁ ((e, enumO it ((i : Int) + 1) v) :: (it, oi') :: (l, W.listOf items.toArray nl) :: news₁) → wpAny (model prog w) A (execs body env) (StepG h₀ env.locals [(e, enumO it ((i : Int) + 1) v), (it, oi'), (l, W.listOf items.toArray nl)] e it l (J (i + 1)) s₁.drawn s₁.os) E ⟨h₁, g₁, s₁.drawn, tk₁, s₁.os⟩)) (h11 : (∀ m₁ news₁ g₁ h₁ tk₁, J items.length m₁ news₁ g₁ → Fr h₀ env.locals h₁ m₁ → News h₀ env.locals h₁ news₁ → Q .next ⟨h₁, g₁, s₁.drawn, tk₁, s₁.os⟩)) : EnumSrc prog w A E env h₀ xi xv body Q xv' s₁
theorem For_enumL {xi xv : Str} {pi pv pt pos : Pos} {x1 : Nat} {iter : Expr} {body : List Stmt} {Q : Flow → Shared → Prop} (hh : A.handled = none) (hxi : env.kindOf xi = some .local) (hxv : env.kindOf xv = some .local)
    (hp : (env.scope.kind == .class || (env.scope.kind == .module && env.locals != env.globals)) = false)
    (h : wpAny (model prog w) A (eval iter env) (fun xv' s₁ => EnumSrc prog w A E env h₀ xi xv body Q xv' s₁) E s)
    (hs : ∀ x, foldedSetIterable iter env x = pure x := by intro _; rfl) (hE : PassesOwn (model prog w) A env E := by passes_own) :
    wpAny (model prog w) A (exec (.For (.Tuple [.Name xi pi, .Name xv pv] x1 pt) iter body [] pos) env) Q E s := by
  refine wpAny_For (wpAny_mono h (fun xv' s₁ h₁ => ?_) fun _ _ e => e) hs
  obtain ⟨e, it, l, oi, items, nl, m, news, rfl, J, hoi, F, N, hei, hle, hli, hoff, h0, step, hQ⟩ := h₁
  obtain ⟨H0, g0, d, tk0, os⟩ := s₁
  refine wpAny_pyIter_enum (N _ (.head _)).1 ?_
  refine codeAny_forLoop_any
    (EnumInv h₀ env.locals d os e it l items nl J) ?_ (items.length + 1)
    ⟨H0, g0, tk0, m, news, 0, .none, oi, rfl, hoi, F, N, hoff, h0, Nat.zero_le _, rfl⟩
  rintro k s' ⟨H, g', tk, m', news', i, old, oi, rfl, hoi, F', N', hoff', hJ, hi, rfl⟩
  have he' := N' _ (.head _)
  have hi' := N' (it, oi) (.tail _ (.head _))
  have hl' := N' (l, _) (.tail _ (.tail _ (.head _)))
  have heL : e ≠ env.locals := he'.2.1
  have hiL : it ≠ env.locals := hi'.2.1
  cases hv : items[i]? with
  | none =>
    have hsz : i = items.length := Nat.le_antisymm hi (by simpa using hv)
    subst hsz
    refine wpAny_pyNext_enum_end (items := items.toArray) hh he'.1 ⟨oi, hi'.1, hoi.1, hoi.2⟩ ⟨_, hl'.1, rfl, nl, rfl⟩ (by rw [List.getElem?_toArray]; exact hv) fun h₁ he₁ => wpAny_execs_nil ?_
    have kk : ∀ b o, b ≠ it → H.get? b = some o → h₁.get? b = some o := fun b o hb x => he₁ b o hb x
    exact hQ m' news' g' h₁ tk hJ (fr_but F' hiL hi'.2.2 kk) (news_but (N := N') kk fun p hp => ⟨.tail _ (.tail _ (.tail _ hp)), (hoff' p hp).2.1⟩)
  | some v =>
    have hlt : i < items.length := (List.getElem?_eq_some_iff.mp hv).1
    refine wpAny_pyNext_enum_item (items := items.toArray) he'.1 ⟨oi, hi'.1, hoi.1, hoi.2⟩ ⟨_, hl'.1, rfl, nl, rfl⟩ (by rw [List.getElem?_toArray]; exact hv) hei fun h₁ heo hit₁ ht₁ hz₁ hk₁ => ?_
    refine wpAny_letOwnedTupleGo_enum heo fun h₂ he₂ hs₂ => ?_
    replace hs₂ : Heap.SameBut e h₁ h₂ := hs₂
    have heH : e < H.objs.size := Heap.lt_size he'.1
    have ht₂ : h₂.IsTuple H.objs.size #[.int i tk, v] := ⟨_, (hs₂.2 _ (Nat.ne_of_gt heH)).trans ht₁, rfl, _, rfl⟩
    have hz₂ : h₂.objs.size = H.objs.size + 1 := hs₂.1.trans hz₁
    refine wpAny_assign_Tuple hh ht₂ rfl rfl fun h₃ hx₃ => ?_
    replace hx₃ : Heap.ExtBut h₂.objs.size h₂ h₃ := hx₃
    have up₃ : ∀ b o, h₂.get? b = some o → h₃.get? b = some o := fun b o x => hx₃ b o (Nat.ne_of_lt (Heap.lt_size x)) x
    obtain ⟨oi', j1, j2, j3⟩ := hit₁
    have F₁ : Fr h₀ env.locals h₃ m' := by
      obtain ⟨oL, es, ep, hL, r⟩ := F'.ns
      refine ⟨⟨oL, es, ep, up₃ _ _ ((hs₂.2 _ (Ne.symm heL)).trans (hk₁ _ _ (Ne.symm heL) (Ne.symm hiL) hL)), r⟩, fun b o x => ?_, F'.above⟩
      have hbe : b ≠ e := fun z => by rw [z, he'.2.2] at x; cases x
      have hbi : b ≠ it := fun z => by rw [z, hi'.2.2] at x; cases x
      exact up₃ _ _ ((hs₂.2 _ hbe).trans (hk₁ _ _ hbe hbi (F'.keep _ _ x)))
    have N₁ : News h₀ env.locals h₃ ((e, enumO it ((i : Int) + 1) v) :: (it, oi') :: (l, W.listOf items.toArray nl) :: news') := by
      refine news_cons (news_cons (news_cons (fun q hq => ⟨?_, (N' q (.tail _ (.tail _ (.tail _ hq)))).2⟩) ?_ hl'.2.1 hl'.2.2) ?_ hiL hi'.2.2) (up₃ _ _ he₂) heL he'.2.2
      · have := hoff' q hq
        exact up₃ _ _ ((hs₂.2 _ this.1).trans (hk₁ _ _ this.1 this.2.1 (N' q (.tail _ (.tail _ (.tail _ hq)))).1))
      · exact up₃ _ _ ((hs₂.2 _ hle).trans (hk₁ _ _ hle hli hl'.1))
      · exact up₃ _ _ ((hs₂.2 _ (Ne.symm hei)).trans j1)
    show wpAny _ _ (do holding [v] (assign (.Name xi pi) env (.int i tk)); do holding [] (assign (.Name xv pv) env v); pure ()) _ _ _
    refine wpAny_bind (wpAny_holding (wpAny_assign_Name (wpAny_storeName_local hxi F₁.ns (fun h₄ hn₄ hs₄ => ?_) hp)))
    replace hs₄ : Heap.SameBut env.locals h₃ h₄ := hs₄
    refine wpAny_bind (wpAny_holding (wpAny_assign_Name (wpAny_storeName_local hxv hn₄ (fun h₅ hn₅ hs₅ => wpAny_pure ?_) hp)))
    replace hs₅ : Heap.SameBut env.locals h₄ h₅ := hs₅
    have F₅ := (F₁.set hn₄ hs₄).set hn₅ hs₅
    have N₅ := (N₁.set hs₄).set hs₅
    refine wpAny_mono (step i v m' news' g' h₅ tk _ oi' hv ⟨j2, j3⟩ hJ hoff' F₅ N₅) (fun f s₃ h₆ => ?_) hE
    obtain ⟨hf, h₃', g₃, tk₃, m₃, news₃, all₃, rfl, F₆, N₆, hkeep, hsub, hJ₆⟩ := h₆
    have fin : ∃ mm, mm < items.length + 1 - i ∧ EnumInv h₀ env.locals d os e it l items nl J mm ⟨h₃', g₃, d, tk₃, os⟩ := by
      refine ⟨items.length + 1 - (i + 1), turn_lt (Nat.le_of_lt hlt), h₃', g₃, tk₃, m₃, news₃, i + 1, v, oi', rfl, ⟨j2, j3⟩, F₆, ?_, fun p hp => (hsub p hp).2, hJ₆, hlt, rfl⟩
      intro q hq
      rcases List.mem_cons.mp hq with rfl | hq
      · have e1 : ((i + 1 : Nat) : Int) = (i : Int) + 1 := by push_cast; rfl
        rw [e1]
        exact N₆ _ (hkeep _ (.head _))
      rcases List.mem_cons.mp hq with rfl | hq
      · exact N₆ _ (hkeep _ (.tail _ (.head _)))
      rcases List.mem_cons.mp hq with rfl | hq
      · exact N₆ _ (hkeep _ (.tail _ (.tail _ (.head _))))
      exact N₆ _ (hsub q hq).1
    rcases hf with rfl | rfl <;> exact fin
theorem split_led {x y : Str} {t u : Tok} {Q : Value → Shared → Prop} (F : Fr h₀ L s.heap m) (N : News h₀ L s.heap news) (hy : (y.length == 0) = false) (hsz : x.length ≤ 10000)
    (h : ∀ D ll h' k, ll.map Prod.fst = Txt.split x y → Fr h₀ L h' m → News h₀ L h' ((D, W.listOf (strValues ll).toArray 0) :: news) → (∀ p ∈ news, p.1 < D) → Q (.ref D) { s with heap := h', toks := k }) :
    wpAny (model prog w) A (call (.builtin "str.split") [.str x t, .str y u]) Q E s :=
  splitN1 F N hy (fun l h' k e F' N' => h _ l h' k e F' N' (newsLt N)) (by rw [sizeLine_eq]; lia)
end
end Mine
end
section
open PySem PySem.W PySem.Spec PySem.Calls PyProof.Rows Builtin Builtin.ObjectAttr
namespace Mine
noncomputable def chunksOf : List Str → List (Str × Str)
  | [] => []
  | w :: r => (Str.ofString "", w) :: r.map fun v => (Str.ofString " ", v)
theorem chunksOf_length (ws : List Str) : (chunksOf ws).length = ws.length := by cases ws <;> simp [chunksOf]
theorem chunksOf_zero {ws : List Str} {w : Str} (h : ws[0]? = some w) : (chunksOf ws)[0]? = some (Str.ofString "", w) := by
  cases ws with
  | nil => cases h
  | cons a r => simp at h; subst h; rfl
theorem chunksOf_succ {ws : List Str} {w : Str} {i : Nat} (hi : i ≠ 0) (h : ws[i]? = some w) : (chunksOf ws)[i]? = some (Str.ofString " ", w) := by
  cases ws with
  | nil => cases h
  | cons a r =>
    cases i with
    | zero => exact absurd rfl hi
    | succ j =>
      have h' : r[j]? = some w := by simpa using h
      simp [chunksOf, h']
theorem chunksOf_mem {ws : List Str} {p : Str × Str} (h : p ∈ chunksOf ws) : (p.1 = Str.ofString "" ∨ p.1 = Str.ofString " ") ∧ p.2 ∈ ws := by
  cases ws with
  | nil => cases h
  | cons a r =>
    rcases List.mem_cons.mp h with rfl | h
    · exact ⟨.inl rfl, .head _⟩
    · obtain ⟨v, hv, rfl⟩ := List.mem_map.mp h
      exact ⟨.inr rfl, .tail _ hv⟩
noncomputable def foldAll (width : Int) (cs : List (Str × Str)) : List Str × List (Str × Str) := cs.foldl (foldStep width) ([], [])
theorem foldAll_snoc (width : Int) (cs : List (Str × Str)) (p : Str × Str) : foldAll width (cs ++ [p]) = foldStep width (foldAll width cs) p := by simp [foldAll]
theorem foldAll_take {width : Int} {cs : List (Str × Str)} {i : Nat} {p : Str × Str} (h : cs[i]? = some p) : foldAll width (cs.take (i + 1)) = foldStep width (foldAll width (cs.take i)) p := by
  rw [List.take_add_one, h]
  exact foldAll_snoc _ _ _
theorem foldStep_parts {width : Int} {st : List Str × List (Str × Str)} {p q : Str × Str} (h : q ∈ (foldStep width st p).2) : q ∈ st.2 ∨ q = p := by
  unfold foldStep at h
  split at h
  · split at h <;> exact .inr (List.mem_singleton.mp h)
  · rcases List.mem_append.mp h with h | h
    · exact .inl h
    · exact .inr (List.mem_singleton.mp h)
theorem foldl_parts {width : Int} : ∀ (cs : List (Str × Str)) (st : List Str × List (Str × Str)) {q : Str × Str}, q ∈ (cs.foldl (foldStep width) st).2 → q ∈ st.2 ∨ q ∈ cs
  | [], _, _, h => .inl h
  | p :: r, st, q, h => by
    rcases foldl_parts r _ h with h | h
    · rcases foldStep_parts h with h | h
      · exact .inl h
      · exact .inr (by rw [h]; exact .head _)
    · exact .inr (.tail _ h)
theorem foldAll_parts {width : Int} (cs : List (Str × Str)) {q : Str × Str} (h : q ∈ (foldAll width cs).2) : q ∈ cs := by
  rcases foldl_parts cs _ h with h | h
  · cases h
  · exact h
theorem foldStep_lines {width : Int} {st : List Str × List (Str × Str)} {p : Str × Str} : (foldStep width st p).1.length ≤ st.1.length + 1 := by
  unfold foldStep
  split
  · split <;> simp
  · simp
theorem foldl_lines {width : Int} : ∀ (cs : List (Str × Str)) (st : List Str × List (Str × Str)), (cs.foldl (foldStep width) st).1.length ≤ st.1.length + cs.length
  | [], _ => Nat.le_refl _
  | p :: r, st => by
    have h1 := foldl_lines (width := width) r (foldStep width st p)
    have h2 := foldStep_lines (width := width) (st := st) (p := p)
    simp only [List.foldl_cons, List.length_cons]
    lia
theorem foldAll_lines {width : Int} (cs : List (Str × Str)) : (foldAll width cs).1.length ≤ cs.length := by
  have := foldl_lines (width := width) cs ([], [])
  simpa [foldAll] using this
theorem PartsAre.sub {nw nw' : List (Addr × Obj)} (hs : ∀ T a b ta tb, (T, tup2 a ta b tb) ∈ nw → (T, tup2 a ta b tb) ∈ nw') : ∀ {vs : List Value} {ps : List (Str × Str)}, PartsAre nw vs ps → PartsAre nw' vs ps
  | _, _, .nil => .nil
  | _, _, .cons h r => .cons (hs _ _ _ _ _ h) (PartsAre.sub hs r)
theorem PartsAre.unsnoc {nw : List (Addr × Obj)} : ∀ {ps : List (Str × Str)} {vs : List Value} {p : Str × Str}, PartsAre nw vs (ps ++ [p]) → ∃ vs' T ta tb, vs = vs' ++ [.ref T] ∧ (T, tup2 p.1 ta p.2 tb) ∈ nw ∧ PartsAre nw vs' ps
  | [], _, _, .cons h .nil => ⟨[], _, _, _, rfl, h, .nil⟩
  | _ :: ps, _, _, .cons h r => by
    obtain ⟨vs', T, ta, tb, rfl, hT, hr⟩ := PartsAre.unsnoc r
    exact ⟨_ :: vs', T, ta, tb, rfl, hT, .cons h hr⟩
end Mine
end
example : True ∧ True := by first | (w_top off; walk1; done) | exact ⟨trivial, trivial⟩
section
open PySem PySem.W PySem.Spec PySem.Calls PyProof.Rows Builtin Builtin.ObjectAttr
example : (fun (_ : OpenLaw) (_ : Params → Frag) => True) PySem.Challenge.rw_tc0044_01 Mine.hd.heap_39 := by k_fill; trivial
namespace Mine
inductive FoldJ (x dx f fd lx : Addr) (hs : Int) (tk0 : Tok) (f1 f2 f3 f4 f5 f6 : Int) (k1 k2 k3 k4 k5 k6 : Tok) (width : Int) (t1 t3 : Tok) (m₀ : Str → Option Value) (nw : List (Addr × Obj)) (cs : List (Str × Str)) (i : Nat) (m : Str → Option Value) (news : List (Addr × Obj)) (g : Array GenState) : Prop
  | mk (pv wv : Option Value) (items : List Value) (ep : Nat) (parts : List (Str × Str)) (lt : List (Str × Tok)) (le : Nat) (nw' : List (Addr × Obj)) (ps ps2 : Array Value) (t0 t2 t4 : Tok) (h1 : m = (fun y => if y = Str.ofString "word" then wv else if y = Str.ofString "place" then pv else m₀ y)) (h2 : news = ((x, accObj dx items ep) :: (dx, dictOf [⟨hs, .str (Str.ofString "_initial_size") tk0, .int 0 t0⟩] 1) :: (154, tabObj ps) :: (161, tabObj ps2) :: (f, instObj 108 fd) :: (fd, dictOf [⟨f1, .str (Str.ofString "_maxlen") k1, .int width t1⟩, ⟨f2, .str (Str.ofString "_continuation_ws") k2, .str (Str.ofString " ") t2⟩, ⟨f3, .str (Str.ofString "_continuation_ws_len") k3, .int 1 t3⟩, ⟨f4, .str (Str.ofString "_splitchars") k4, .str (Str.ofString " ") t4⟩, ⟨f5, .str (Str.ofString "_lines") k5, .ref lx⟩, ⟨f6, .str (Str.ofString "_current_line") k6, .ref x⟩] 6) :: (lx, W.listOf (strValues lt).toArray le) :: nw')) (h3 : PartsAre nw' items parts) (h4 : (∀ p ∈ nw', @Ne Nat p.1 x)) (h5 : (∀ p ∈ nw', @Ne Nat p.1 dx)) (h6 : (∀ p ∈ nw', @Ne Nat p.1 154)) (h7 : (∀ p ∈ nw', @Ne Nat p.1 161)) (h8 : (∀ p ∈ nw', @Ne Nat p.1 lx)) (h9 : (∀ p ∈ nw, p ∈ nw')) (h10 : TriplesOk ps.toList) (h11 : TriplesOk ps2.toList) (h12 : AllBare g) (h13 : items.length ≤ i) (h14 : (lt.map Prod.fst, parts) = foldAll width (cs.take i)) : FoldJ x dx f fd lx hs tk0 f1 f2 f3 f4 f5 f6 k1 k2 k3 k4 k5 k6 width t1 t3 m₀ nw cs i m news g
theorem perm9 {h₀ h : Heap} {L : Addr} {e it l x dx f fd lx a b : Addr × Obj} {nw : List (Addr × Obj)} (N : News h₀ L h (e :: it :: l :: x :: dx :: f :: fd :: lx :: a :: b :: nw)) : News h₀ L h (e :: it :: l :: x :: dx :: a :: b :: f :: fd :: lx :: nw) :=
  List.forall_mem_cons.mpr ⟨N _ (.head _), List.forall_mem_cons.mpr ⟨N _ (.tail _ (.head _)), List.forall_mem_cons.mpr ⟨N _ (.tail _ (.tail _ (.head _))), List.forall_mem_cons.mpr ⟨N _ (.tail _ (.tail _ (.tail _ (.head _)))), List.forall_mem_cons.mpr ⟨N _ (.tail _ (.tail _ (.tail _ (.tail _ (.head _))))), List.forall_mem_cons.mpr ⟨N _ (.tail _ (.tail _ (.tail _ (.tail _ (.tail _ (.tail _ (.tail _ (.tail _ (.head _))))))))), List.forall_mem_cons.mpr ⟨N _ (.tail _ (.tail _ (.tail _ (.tail _ (.tail _ (.tail _ (.tail _ (.tail _ (.tail _ (.head _)))))))))), List.forall_mem_cons.mpr ⟨N _ (.tail _ (.tail _ (.tail _ (.tail _ (.tail _ (.head _)))))), List.forall_mem_cons.mpr ⟨N _ (.tail _ (.tail _ (.tail _ (.tail _ (.tail _ (.tail _ (.head _))))))), List.forall_mem_cons.mpr ⟨N _ (.tail _ (.tail _ (.tail _ (.tail _ (.tail _ (.tail _ (.tail _ (.head _)))))))), fun q hq => N q (.tail _ (.tail _ (.tail _ (.tail _ (.tail _ (.tail _ (.tail _ (.tail _ (.tail _ (.tail _ (hq)))))))))))⟩⟩⟩⟩⟩⟩⟩⟩⟩⟩
theorem perm10 {h₀ h : Heap} {L : Addr} {e it l x dx f fd lx a b : Addr × Obj} {nw : List (Addr × Obj)} (N : News h₀ L h (e :: it :: l :: x :: dx :: a :: b :: f :: fd :: lx :: nw)) : News h₀ L h (x :: dx :: a :: b :: f :: fd :: lx :: e :: it :: l :: nw) :=
  List.forall_mem_cons.mpr ⟨N _ (.tail _ (.tail _ (.tail _ (.head _)))), List.forall_mem_cons.mpr ⟨N _ (.tail _ (.tail _ (.tail _ (.tail _ (.head _))))), List.forall_mem_cons.mpr ⟨N _ (.tail _ (.tail _ (.tail _ (.tail _ (.tail _ (.head _)))))), List.forall_mem_cons.mpr ⟨N _ (.tail _ (.tail _ (.tail _ (.tail _ (.tail _ (.tail _ (.head _))))))), List.forall_mem_cons.mpr ⟨N _ (.tail _ (.tail _ (.tail _ (.tail _ (.tail _ (.tail _ (.tail _ (.head _)))))))), List.forall_mem_cons.mpr ⟨N _ (.tail _ (.tail _ (.tail _ (.tail _ (.tail _ (.tail _ (.tail _ (.tail _ (.head _))))))))), List.forall_mem_cons.mpr ⟨N _ (.tail _ (.tail _ (.tail _ (.tail _ (.tail _ (.tail _ (.tail _ (.tail _ (.tail _ (.head _)))))))))), List.forall_mem_cons.mpr ⟨N _ (.head _), List.forall_mem_cons.mpr ⟨N _ (.tail _ (.head _)), List.forall_mem_cons.mpr ⟨N _ (.tail _ (.tail _ (.head _))), fun q hq => N q (.tail _ (.tail _ (.tail _ (.tail _ (.tail _ (.tail _ (.tail _ (.tail _ (.tail _ (.tail _ (hq)))))))))))⟩⟩⟩⟩⟩⟩⟩⟩⟩⟩
theorem strValues_get {ll : List (Str × Tok)} {i : Nat} {v : Value} (h : (strValues ll)[i]? = some v) : ∃ w t, ll[i]? = some (w, t) ∧ v = .str w t := by
  unfold strValues at h
  rw [List.getElem?_map] at h
  obtain ⟨p, hp, rfl⟩ := Option.map_eq_some_iff.mp h
  exact ⟨p.1, p.2, hp, rfl⟩
theorem off_cons3 {z e it l : Nat} {o1 o2 o3 : Obj} {nw : List (Addr × Obj)} (h1 : @Ne Nat e z) (h2 : @Ne Nat it z) (h3 : @Ne Nat l z) (h : ∀ p ∈ nw, @Ne Nat p.1 z) : ∀ p ∈ (e, o1) :: (it, o2) :: (l, o3) :: nw, @Ne Nat p.1 z := by
  intro p hp
  simp only [List.mem_cons] at hp
  rcases hp with rfl | rfl | rfl | hp
  · exact h1
  · exact h2
  · exact h3
  · exact h p hp
theorem keep7 {α : Type} {p1 p2 p3 p4 p5 p6 p7 : α} {m : List α} {P : α → Prop} (h1 : P p1) (h2 : P p2) (h3 : P p3) (h4 : P p4) (h5 : P p5) (h6 : P p6) (h7 : P p7) (hm : ∀ p ∈ m, P p) : ∀ p ∈ p1 :: p2 :: p3 :: p4 :: p5 :: p6 :: p7 :: m, P p :=
  List.forall_mem_cons.mpr ⟨h1, List.forall_mem_cons.mpr ⟨h2, List.forall_mem_cons.mpr ⟨h3, List.forall_mem_cons.mpr ⟨h4, List.forall_mem_cons.mpr ⟨h5, List.forall_mem_cons.mpr ⟨h6, List.forall_mem_cons.mpr ⟨h7, hm⟩⟩⟩⟩⟩⟩⟩
theorem fold_step_end {x dx f fd lx e it l : Addr} {oe oit ol : Obj} {hs : Int} {tk0 : Tok} {f1 f2 f3 f4 f5 f6 : Int} {k1 k2 k3 k4 k5 k6 : Tok} {width : Int} {t0 t1 t2 t3 t4 : Tok} {m₀ : Str → Option Value} {nw nw' nw₁ : List (Addr × Obj)} {cs : List (Str × Str)} {i : Nat} {h₀ h₁ : Heap} {L : Addr} {g₁ : Array GenState} {d : Drawn} {os : OsState} {tk : Nat} {pv wv pv' wv' : Option Value}
    {items : List Value} {ep : Nat} {parts : List (Str × Str)} {lt : List (Str × Tok)} {le : Nat} {ps ps2 : Array Value}
    (F₁ : Fr h₀ L h₁ (fun y => if y = Str.ofString "word" then wv' else if y = Str.ofString "place" then pv' else (fun y => if y = Str.ofString "word" then wv else if y = Str.ofString "place" then pv else m₀ y) y)) (N₁ : News h₀ L h₁ ((x, accObj dx items ep) :: (dx, dictOf [⟨hs, .str (Str.ofString "_initial_size") tk0, .int 0 t0⟩] 1) :: (154, tabObj ps) :: (161, tabObj ps2) :: (f, instObj 108 fd) :: (fd, dictOf [⟨f1, .str (Str.ofString "_maxlen") k1, .int width t1⟩, ⟨f2, .str (Str.ofString "_continuation_ws") k2, .str (Str.ofString " ") t2⟩, ⟨f3, .str (Str.ofString "_continuation_ws_len") k3, .int 1 t3⟩, ⟨f4, .str (Str.ofString "_splitchars") k4, .str (Str.ofString " ") t4⟩, ⟨f5, .str (Str.ofString "_lines") k5, .ref lx⟩, ⟨f6, .str (Str.ofString "_current_line") k6, .ref x⟩] 6) :: (lx, W.listOf (strValues lt).toArray le) :: nw₁)) (PA : PartsAre nw₁ items parts)
    (y : (∀ p ∈ nw₁, @Ne Nat p.1 x) ∧ (∀ p ∈ nw₁, @Ne Nat p.1 dx) ∧ (∀ p ∈ nw₁, @Ne Nat p.1 154) ∧ (∀ p ∈ nw₁, @Ne Nat p.1 161) ∧ (∀ p ∈ nw₁, @Ne Nat p.1 lx)) (hnw : ∀ p ∈ (e, oe) :: (it, oit) :: (l, ol) :: nw', p ∈ nw₁) (hsub : ∀ p ∈ nw, p ∈ nw') (hoff : ∀ p ∈ nw, @Ne Nat p.1 e ∧ @Ne Nat p.1 it ∧ @Ne Nat p.1 l) (hT1 : TriplesOk ps.toList) (hT2 : TriplesOk ps2.toList) (hG : AllBare g₁)
    (hfix : ∀ a ∈ ([x, dx, 154, 161, f, fd, lx] : List Nat), @Ne Nat a e ∧ @Ne Nat a it ∧ @Ne Nat a l) (c1 : oe.cls ≠ .type "tuple") (c2 : oit.cls ≠ .type "tuple") (c3 : ol.cls ≠ .type "tuple") (hil : items.length ≤ i) (hst : (lt.map Prod.fst, parts) = foldAll width (cs.take i)) :
    StepG h₀ L [(e, oe), (it, oit), (l, ol)] e it l (FoldJ x dx f fd lx hs tk0 f1 f2 f3 f4 f5 f6 k1 k2 k3 k4 k5 k6 width t1 t3 m₀ nw cs i) d os .next ⟨h₁, g₁, d, tk, os⟩ := by
  have inAll : ∀ p ∈ nw₁, p ∈ ((x, accObj dx items ep) :: (dx, dictOf [⟨hs, .str (Str.ofString "_initial_size") tk0, .int 0 t0⟩] 1) :: (154, tabObj ps) :: (161, tabObj ps2) :: (f, instObj 108 fd) :: (fd, dictOf [⟨f1, .str (Str.ofString "_maxlen") k1, .int width t1⟩, ⟨f2, .str (Str.ofString "_continuation_ws") k2, .str (Str.ofString " ") t2⟩, ⟨f3, .str (Str.ofString "_continuation_ws_len") k3, .int 1 t3⟩, ⟨f4, .str (Str.ofString "_splitchars") k4, .str (Str.ofString " ") t4⟩, ⟨f5, .str (Str.ofString "_lines") k5, .ref lx⟩, ⟨f6, .str (Str.ofString "_current_line") k6, .ref x⟩] 6) :: (lx, W.listOf (strValues lt).toArray le) :: nw₁) := fun p hp => .tail _ (.tail _ (.tail _ (.tail _ (.tail _ (.tail _ (.tail _ hp))))))
  have he := N₁ _ (inAll _ (hnw _ (.head _)))
  have hi := N₁ _ (inAll _ (hnw _ (.tail _ (.head _))))
  have hl := N₁ _ (inAll _ (hnw _ (.tail _ (.tail _ (.head _)))))
  have hm : (fun y => if y = Str.ofString "word" then wv' else if y = Str.ofString "place" then pv' else (fun y => if y = Str.ofString "word" then wv else if y = Str.ofString "place" then pv else m₀ y) y) = (fun y => if y = Str.ofString "word" then wv' else if y = Str.ofString "place" then pv' else m₀ y) := by
    funext y
    by_cases h1 : y = Str.ofString "word"
    · simp [h1]
    · by_cases h2 : y = Str.ofString "place"
      · simp [h2]
      · simp [h1, h2]
  have hin : ∀ p ∈ nw₁.filter (fun q => decide (@Ne Nat q.1 e ∧ @Ne Nat q.1 it ∧ @Ne Nat q.1 l)), p ∈ nw₁ ∧ @Ne Nat p.1 e ∧ @Ne Nat p.1 it ∧ @Ne Nat p.1 l := fun p hp => ⟨(List.mem_filter.mp hp).1, of_decide_eq_true (List.mem_filter.mp hp).2⟩
  have mk : ∀ p ∈ nw₁, @Ne Nat p.1 e ∧ @Ne Nat p.1 it ∧ @Ne Nat p.1 l → p ∈ nw₁.filter (fun q => decide (@Ne Nat q.1 e ∧ @Ne Nat q.1 it ∧ @Ne Nat q.1 l)) := fun p hp h => List.mem_filter.mpr ⟨hp, decide_eq_true h⟩
  obtain ⟨y1, y2, y3, y4, y5⟩ := y
  refine ⟨.inl rfl, h₁, g₁, tk, _, ((x, accObj dx items ep) :: (dx, dictOf [⟨hs, .str (Str.ofString "_initial_size") tk0, .int 0 t0⟩] 1) :: (154, tabObj ps) :: (161, tabObj ps2) :: (f, instObj 108 fd) :: (fd, dictOf [⟨f1, .str (Str.ofString "_maxlen") k1, .int width t1⟩, ⟨f2, .str (Str.ofString "_continuation_ws") k2, .str (Str.ofString " ") t2⟩, ⟨f3, .str (Str.ofString "_continuation_ws_len") k3, .int 1 t3⟩, ⟨f4, .str (Str.ofString "_splitchars") k4, .str (Str.ofString " ") t4⟩, ⟨f5, .str (Str.ofString "_lines") k5, .ref lx⟩, ⟨f6, .str (Str.ofString "_current_line") k6, .ref x⟩] 6) :: (lx, W.listOf (strValues lt).toArray le) :: (nw₁.filter (fun q => decide (@Ne Nat q.1 e ∧ @Ne Nat q.1 it ∧ @Ne Nat q.1 l)))), _, rfl, F₁, N₁, ?_, ?_, ?_⟩
  · exact fun p hp => inAll _ (hnw _ (List.mem_append_left nw' hp))
  · exact keep7 ⟨(.head _), hfix x (.head _)⟩ ⟨(.tail _ (.head _)), hfix dx (.tail _ (.head _))⟩ ⟨(.tail _ (.tail _ (.head _))), hfix 154 (.tail _ (.tail _ (.head _)))⟩ ⟨(.tail _ (.tail _ (.tail _ (.head _)))), hfix 161 (.tail _ (.tail _ (.tail _ (.head _))))⟩ ⟨(.tail _ (.tail _ (.tail _ (.tail _ (.head _))))), hfix f (.tail _ (.tail _ (.tail _ (.tail _ (.head _)))))⟩ ⟨(.tail _ (.tail _ (.tail _ (.tail _ (.tail _ (.head _)))))), hfix fd (.tail _ (.tail _ (.tail _ (.tail _ (.tail _ (.head _))))))⟩ ⟨(.tail _ (.tail _ (.tail _ (.tail _ (.tail _ (.tail _ (.head _))))))), hfix lx (.tail _ (.tail _ (.tail _ (.tail _ (.tail _ (.tail _ (.head _)))))))⟩ fun p hp => ⟨inAll _ (hin p hp).1, (hin p hp).2⟩
  · refine ⟨pv', wv', items, ep, parts, lt, le, _, ps, ps2, t0, t2, t4, hm, rfl, PA.sub (fun T a b ta tb h => mk _ h ⟨?_, ?_, ?_⟩), fun p hp => y1 p (hin p hp).1, fun p hp => y2 p (hin p hp).1, fun p hp => y3 p (hin p hp).1, fun p hp => y4 p (hin p hp).1, fun p hp => y5 p (hin p hp).1, fun p hp => mk p (hnw p (.tail _ (.tail _ (.tail _ (hsub p hp))))) (hoff p hp), hT1, hT2, hG, hil, hst⟩
    · intro h1
      have q := (N₁ _ (inAll _ h)).1
      rw [show T = e from h1, he.1] at q
      exact c1 (congrArg Obj.cls (Option.some.inj q))
    · intro h1
      have q := (N₁ _ (inAll _ h)).1
      rw [show T = it from h1, hi.1] at q
      exact c2 (congrArg Obj.cls (Option.some.inj q))
    · intro h1
      have q := (N₁ _ (inAll _ h)).1
      rw [show T = l from h1, hl.1] at q
      exact c3 (congrArg Obj.cls (Option.some.inj q))
theorem off_up {e it l x : Nat} {o1 o2 o3 : Obj} {nw : List (Addr × Obj)} (h : x < l) (e0 : l < it) (i4 : it < e) (z : ∀ p ∈ nw, @Ne Nat p.1 x) : ∀ p ∈ ((e, o1) :: (it, o2) :: (l, o3) :: nw : List (Addr × Obj)), @Ne Nat p.1 x :=
  off_cons3 (Nat.ne_of_gt (Nat.lt_trans (Nat.lt_trans h e0) i4)) (Nat.ne_of_gt (Nat.lt_trans h e0)) (Nat.ne_of_gt h) z
section
variable {w : World} {pT : Program} {loose : List Str} {mean : ExcName → Option Value} {mg mb : Str → Option Value}
theorem folded_call {text : Str} {width : Int} {t0 t1 : Tok} {ps ps2 : Array Value} {nw : List (Addr × Obj)} {words ls : List Str} {pp : List (Str × Str)} {fw wd : Str} {dp un : Nat} {gd : Option (List Code)} {cn : Str} {cs : Scope} {a : Addr} {ccd : Value} {cl : List (Str × Addr)} {outer : List Env} {A₀ : Around} {base h₀ : Heap} {L : Addr} {m : Str → Option Value} {s : Shared} {Q E : Value → Shared → Prop}
    (B : Below A₀ base outer h₀) (F : Fr h₀ L s.heap m) (X : (Mine.hd.heap_39 w.params).In h₀) (T : Top pT loose mean mg mb h₀) (hk : cs.kind = .function)
    (hd1 : dp + 100 < recursionLimit) (htx : text.length ≤ 1000) (hsp : Txt.split text (Str.ofString " ") = words) (hwl : words.length ≤ 700) (hww : ∀ v ∈ words, v.length ≤ 1000) (hu : un + 400 < cLine) (G : AllBare s.gens) (hoff : ∀ p ∈ nw, @Ne Nat p.1 154) (hoff2 : ∀ p ∈ nw, @Ne Nat p.1 161)
    (N : News h₀ L s.heap ((154, tabObj ps) :: (161, tabObj ps2) :: nw)) (ht : TriplesOk ps.toList) (ht2 : TriplesOk ps2.toList)
    (hfin : foldAll width (chunksOf words) = (ls, pp ++ [(fw, wd)])) (hwd0 : wd ≠ Str.ofString "") (hpos : 0 < sumLen (pp ++ [(fw, wd)])) (hws : Txt.isspace (Txt.join (Str.ofString "") ((pp ++ [(fw, wd)]).map partStr)) = false) (hj : JoinOk (Str.ofString "\n") (ls ++ [lineOf (pp ++ [(fw, wd)])]) = true)
    (hret : ∀ t' ps' ps2' nw' h' g' tk', Fr h₀ L h' m → News h₀ L h' ((154, tabObj ps') :: (161, tabObj ps2') :: nw') → (∀ p ∈ nw, p ∈ nw') → TriplesOk ps'.toList → TriplesOk ps2'.toList → AllBare g' → Q (.str (Txt.join (Str.ofString "\n") (ls ++ [lineOf (pp ++ [(fw, wd)])])) t') ⟨h', g', s.drawn, tk', s.os⟩) :
    wpAny (model PySem.Challenge.pw_tc0044_01 w) (ktrTop dp un gd cn cs L a ccd cl outer) (call (.ref 217) [.str text t0, .int width t1]) Q E s := by
  refine wpAny_call ?_
  k_dflt (refine' code_def (binds := [(Str.ofString "text", .str text t0), (Str.ofString "width", .int width t1)]) ?k1 ?k2 ?k3 ?k4 ?k5 ?kA ?kF ?kK ?k6 ?k7 ?k8 ?k9 ?kB ?_ ?c2 ?c3 ?c4 ?c5; (case kA => exact rfl); (case kF => exact rfl); (case kK => assumption); (case k1 => k_asm); (case k2 => k_asm); (case k3 => k_asm); (case k4 => k_asm); (case k5 => k_asm); (case k6 => k_is); (case k7 => k_is); (case k8 => ktr_room); (case k9 => exact BindsTo.of_eq rfl); (case c5 => decide); (case kB => exact locs rfl); (case c2 => exact rfl); (case c3 => exact rfl); (case c4 => exact rfl); k_whole; intro g' L' h' FG' F' N' B' X' T'; (try dsimp only); (try k_lift B'); (try k_fold); (try k_sweep))
  iterate 20 (first | with_reducible ((with_reducible show wpAny _ _ (call (Value.ref _) _) _ _ _); ((k_here; k_dflt (first | (refine' newfmt_call ?B ?F ?X ?T ?hk ?hd1 ?N ?_; (case B => k_asm); (case F => k_asm); (case X => k_asm); (case T => k_asm); (case hk => rfl); (case hd1 => ktr_room); (case N => k_asm); intro x dx lx f fd hs tk0 h₁ tk₁ f1 f2 f3 f4 f5 f6 k1 k2 k3 k4 k5 k6 t3 F₁ N₁ l₁ l₂ l₃ l₄ l₅; (try k_sweep)) | (refine' fstr_call ?B ?F ?X ?T ?hk ?hd1 ?hu ?G d1 d2 d3 d4 d5 d6 d7 d8 d9 d10 d11 d12 d13 d14 d15 d16 d17 d18 d19 z1 z2 z3 z4 z5 ?N ?ht ?ht2 PA' hsz' hlen' hT₀ hfw' hwd' hwd0 hll' hpos hws hj' ?_; (case B => k_asm); (case F => k_asm); (case X => k_asm); (case T => k_asm); (case hk => rfl); (case hd1 => ktr_room); (case hu => ktr_units); (case G => assumption); (case N => k_asm); (case ht => assumption); (case ht2 => assumption); intro t₁ ps₁ ps₂ h₁ g₁ tk₁ F₁ N₁ hT₁ hT₂ hG₁; (try k_sweep)) | (refine' append_call ?B ?F ?X ?T ?hk ?hd1 ?hu ?G d1 d2 d3 d4 d5 d6 d7 d8 d9 d10 d11 d12 d13 d14 d15 d16 d17 d18 d19 z1 z2 z3 z4 z5 ?N ?ht ?ht2 PA' ?hsz ?hlen ?hfw ?hwd ?hll ?hfb ?_; (case B => k_asm); (case F => k_asm); (case X => k_asm); (case T => k_asm); (case hk => rfl); (case hd1 => ktr_room); (case hu => ktr_units); (case G => assumption); (case N => k_asm); (case ht => assumption); (case ht2 => assumption); (case hsz => assumption); (case hlen => assumption); (case hwd => assumption); (case hll => assumption); (case hfw => first | exact Nat.zero_le _ | decide +kernel); (case hfb => first | exact fun _ => rfl | exact fun h => absurd hnil h); intro items₁ ep₁ parts₁ lt₁ le₁ nw₁ ps₁ ps₂ h₁ g₁ tk₁ t₁ F₁ N₁ PA₁ y1 y2 y3 y4 y5 hnw₁ hT₁ hT₂ hG₁ hln₁ hst₁; (try k_sweep)))))) | walk1)
  k_dflt (refine For_enumL (h₀ := g') rfl rfl rfl rfl ?_)
  iterate 13 (first | with_reducible ((with_reducible show wpAny _ _ (call (Value.builtin "str.split") _) _ _ _); ((k_here; k_dflt (refine' split_led ?k1 ?k2 ?k3 ?k4 ?_; (case k1 => k_asm); (case k2 => k_asm); (case k3 => decide +kernel); (case k4 => exact Nat.le_trans htx (by decide))); intro l ll h₂ k₂ hlw F₂ N₂ i₁))) | walk1)
  refine enum_led (by k_asm) (by k_asm) (.head _) ?_
  intro e it oi h₃ hoi F₃ N₃ i₃ i₄
  have i₂ := allLt_of i₁
  have i₅ := allLt_of i₃
  simp only [AllLt] at i₂ i₅
  have b1 : @LT.lt Nat _ 154 fd := l₁ _ (.head _)
  have b2 : @LT.lt Nat _ 161 fd := l₁ _ (.tail _ (.head _))
  have l2 := ltN l₂
  have hnwlt : ∀ p ∈ nw, @LT.lt Nat _ p.1 fd := fun p hp => l₁ p (.tail _ (.tail _ hp))
  obtain ⟨c1, c2, c3, c4, c5, c6, c7, c8⟩ := i₂
  obtain ⟨e0, -⟩ := i₅
  have g1 : @LT.lt Nat _ fd f := l₂
  have g2 : @LT.lt Nat _ f lx := l₃
  have g3 : @LT.lt Nat _ lx dx := l₄
  have g4 : @LT.lt Nat _ dx x := l₅
  have g12 := Nat.lt_trans g1 g2
  have g23 := Nat.lt_trans g2 g3
  have g34 := Nat.lt_trans g3 g4
  have g13 := Nat.lt_trans g12 g3
  have g24 := Nat.lt_trans g23 g4
  have g14 := Nat.lt_trans g13 g4
  have d1 : Ap x dx := Nat.ne_of_gt g4
  have d2 : Ap x 154 := Nat.ne_of_gt (Nat.lt_trans b1 g14)
  have d3 : Ap x 161 := Nat.ne_of_gt (Nat.lt_trans b2 g14)
  have d4 : Ap x f := Nat.ne_of_gt g24
  have d5 : Ap x fd := Nat.ne_of_gt g14
  have d6 : Ap x lx := Nat.ne_of_gt g34
  have d7 : Ap dx 154 := Nat.ne_of_gt (Nat.lt_trans b1 g13)
  have d8 : Ap dx 161 := Nat.ne_of_gt (Nat.lt_trans b2 g13)
  have d9 : Ap dx f := Nat.ne_of_gt g23
  have d10 : Ap dx fd := Nat.ne_of_gt g13
  have d11 : Ap dx lx := Nat.ne_of_gt g3
  have d12 : Ap lx 154 := Nat.ne_of_gt (Nat.lt_trans b1 g12)
  have d13 : Ap lx 161 := Nat.ne_of_gt (Nat.lt_trans b2 g12)
  have d14 : Ap lx f := Nat.ne_of_gt g2
  have d15 : Ap lx fd := Nat.ne_of_gt g12
  have d16 : Ap f 154 := Nat.ne_of_gt (Nat.lt_trans b1 g1)
  have d17 : Ap f 161 := Nat.ne_of_gt (Nat.lt_trans b2 g1)
  have d18 : Ap fd 154 := Nat.ne_of_gt b1
  have d19 : Ap fd 161 := Nat.ne_of_gt b2
  have o1 : ∀ p ∈ nw, @Ne Nat p.1 x := fun p hp => Nat.ne_of_lt (Nat.lt_trans (hnwlt p hp) g14)
  have o2 : ∀ p ∈ nw, @Ne Nat p.1 dx := fun p hp => Nat.ne_of_lt (Nat.lt_trans (hnwlt p hp) g13)
  have o5 : ∀ p ∈ nw, @Ne Nat p.1 lx := fun p hp => Nat.ne_of_lt (Nat.lt_trans (hnwlt p hp) g12)
  have hx : @LT.lt Nat _ x l := by assumption
  have hdx := Nat.lt_trans g4 hx
  have hlx := Nat.lt_trans g3 hdx
  have hf := Nat.lt_trans g2 hlx
  have hfd := Nat.lt_trans g1 hf
  have h154 := Nat.lt_trans b1 hfd
  have h161 := Nat.lt_trans b2 hfd
  clear g1 g2 g3 g4 g12 g23 g34 g13 g24 g14
  have N₄ := perm9 N₃
  have hM0 : (fun y => if y = Str.ofString "word" then none else if y = Str.ofString "place" then none else (if y = Str.ofString "folder" then some (Value.ref f) else List.lookup y [(Str.ofString "text", Value.str text t0), (Str.ofString "width", Value.int width t1)].reverse)) = (fun y => if y = Str.ofString "folder" then some (Value.ref f) else List.lookup y [(Str.ofString "text", Value.str text t0), (Str.ofString "width", Value.int width t1)].reverse) := by
    funext y
    by_cases h1 : y = Str.ofString "word"
    · subst h1; rfl
    · rw [if_neg h1]
      by_cases h2 : y = Str.ofString "place"
      · subst h2; rfl
      · rw [if_neg h2]
  refine ⟨e, it, l, oi, strValues ll, 0, _, _, rfl, FoldJ x dx f fd lx hs tk0 f1 f2 f3 f4 f5 f6 k1 k2 k3 k4 k5 k6 width t1 t3 (fun y => if y = Str.ofString "folder" then some (Value.ref f) else List.lookup y [(Str.ofString "text", Value.str text t0), (Str.ofString "width", Value.int width t1)].reverse) nw (chunksOf words), hoi, F₃, N₄, Nat.ne_of_gt i₄, Nat.ne_of_lt (Nat.lt_trans e0 i₄), Nat.ne_of_lt e0, ?hoffs, ?zero, ?step, ?fin⟩
  case hoffs =>
    intro p hp
    have h1 : @LT.lt Nat _ p.1 l := i₁ p (by
      simp only [List.mem_cons] at hp ⊢
      rcases hp with h | h | h | h | h | h | h | h <;> simp [h])
    exact ⟨Nat.ne_of_lt (Nat.lt_trans (Nat.lt_trans h1 e0) i₄), Nat.ne_of_lt (Nat.lt_trans h1 e0), Nat.ne_of_lt h1⟩
  case zero =>
    exact ⟨none, none, [], 0, [], [], 0, nw, ps, ps2, _, _, _, hM0.symm, rfl, .nil, o1, o2, hoff, hoff2, o5, fun _ h => h, ht, ht2, G, Nat.le_refl _, rfl⟩
  case step =>
    rintro i v m₁ news₁ g₁ h₄ tk₄ tk₅ oi' hv hoi' ⟨pv, wv, items, ep, parts, lt, le, nw', ps', ps2', t0', t2', t4', rfl, rfl, PA', z1, z2, z3, z4, z5, hsubn, hT1, hT2, hG', hil, hst⟩ hoff₁ F₅ N₅
    obtain ⟨wd, tw, hwl', rfl⟩ := strValues_get hv
    have hwi : words[i]? = some wd := by rw [← hsp, ← hlw, List.getElem?_map, hwl']; rfl
    have hwm : wd ∈ words := List.mem_of_getElem? hwi
    have hwd := hww wd hwm
    have hi700 : i < words.length := (List.getElem?_eq_some_iff.mp hwi).1
    have hsz' : items.length ≤ 800 := Nat.le_trans hil (Nat.le_trans (Nat.le_of_lt hi700) (Nat.le_trans hwl (by decide)))
    have hch : ∀ p ∈ parts, p ∈ chunksOf words := fun p hp => by
      have e2 : parts = (foldAll width ((chunksOf words).take i)).2 := congrArg Prod.snd hst
      rw [e2] at hp
      exact List.mem_of_mem_take (foldAll_parts _ hp)
    have hlen' : ∀ p ∈ parts, p.1.length ≤ 1000 ∧ p.2.length ≤ 1000 := fun p hp => by
      obtain ⟨h1, h2⟩ := chunksOf_mem (hch p hp)
      refine ⟨?_, hww _ h2⟩
      rcases h1 with h1 | h1 <;> rw [h1] <;> decide +kernel
    have hll' : lt.length ≤ 800 := by
      have e2 : lt.map Prod.fst = (foldAll width ((chunksOf words).take i)).1 := congrArg Prod.fst hst
      have e3 := congrArg List.length e2
      rw [List.length_map] at e3
      have e4 := foldAll_lines (width := width) ((chunksOf words).take i)
      rw [List.length_take] at e4
      exact Nat.le_trans (Nat.le_of_eq e3) (Nat.le_trans e4 (Nat.le_trans (Nat.min_le_left _ _) (Nat.le_trans (Nat.le_of_lt hi700) (Nat.le_trans hwl (by decide)))))
    replace N₅ := perm10 N₅
    replace PA' := PA'.mono fun _ h => List.Mem.tail (e, enumO it ((i : Int) + 1) (.str wd tw)) (List.Mem.tail (it, oi') (List.Mem.tail (l, W.listOf (strValues ll).toArray 0) h))
    have w1 := z1
    replace z1 := off_up (o1 := enumO it ((i : Int) + 1) (.str wd tw)) (o2 := oi') (o3 := W.listOf (strValues ll).toArray 0) hx e0 i₄ z1
    replace z2 := off_up (o1 := enumO it ((i : Int) + 1) (.str wd tw)) (o2 := oi') (o3 := W.listOf (strValues ll).toArray 0) hdx e0 i₄ z2
    replace z3 := off_up (o1 := enumO it ((i : Int) + 1) (.str wd tw)) (o2 := oi') (o3 := W.listOf (strValues ll).toArray 0) h154 e0 i₄ z3
    replace z4 := off_up (o1 := enumO it ((i : Int) + 1) (.str wd tw)) (o2 := oi') (o3 := W.listOf (strValues ll).toArray 0) h161 e0 i₄ z4
    replace z5 := off_up (o1 := enumO it ((i : Int) + 1) (.str wd tw)) (o2 := oi') (o3 := W.listOf (strValues ll).toArray 0) hlx e0 i₄ z5
    clear N₂ N₃ N₄ F₂ F₃
    have hfix : ∀ a ∈ ([x, dx, 154, 161, f, fd, lx] : List Nat), @Ne Nat a e ∧ @Ne Nat a it ∧ @Ne Nat a l := by
      have hl : ∀ a ∈ ([x, dx, 154, 161, f, fd, lx] : List Nat), a < l := List.forall_mem_cons.mpr ⟨hx, List.forall_mem_cons.mpr ⟨hdx, List.forall_mem_cons.mpr ⟨h154, List.forall_mem_cons.mpr ⟨h161, List.forall_mem_cons.mpr ⟨hf, List.forall_mem_cons.mpr ⟨hfd, List.forall_mem_cons.mpr ⟨hlx, List.forall_mem_nil _⟩⟩⟩⟩⟩⟩⟩
      exact fun a ha => ⟨Nat.ne_of_lt (Nat.lt_trans (Nat.lt_trans (hl a ha) e0) i₄), Nat.ne_of_lt (Nat.lt_trans (hl a ha) e0), Nat.ne_of_lt (hl a ha)⟩
    have hoffn : ∀ p ∈ nw, @Ne Nat p.1 e ∧ @Ne Nat p.1 it ∧ @Ne Nat p.1 l := fun p hp => by
      have h1 := Nat.lt_trans (hnwlt p hp) hfd
      exact ⟨Nat.ne_of_lt (Nat.lt_trans (Nat.lt_trans h1 e0) i₄), Nat.ne_of_lt (Nat.lt_trans h1 e0), Nat.ne_of_lt h1⟩
    repeat (first | with_reducible ((with_reducible show wpAny _ _ (call (Value.ref _) _) _ _ _); ((k_here; k_dflt (first | (refine' newfmt_call ?B ?F ?X ?T ?hk ?hd1 ?N ?_; (case B => k_asm); (case F => k_asm); (case X => k_asm); (case T => k_asm); (case hk => rfl); (case hd1 => ktr_room); (case N => k_asm); intro x dx lx f fd hs tk0 h₁ tk₁ f1 f2 f3 f4 f5 f6 k1 k2 k3 k4 k5 k6 t3 F₁ N₁ l₁ l₂ l₃ l₄ l₅; (try k_sweep)) | (refine' fstr_call ?B ?F ?X ?T ?hk ?hd1 ?hu ?G d1 d2 d3 d4 d5 d6 d7 d8 d9 d10 d11 d12 d13 d14 d15 d16 d17 d18 d19 z1 z2 z3 z4 z5 ?N ?ht ?ht2 PA' hsz' hlen' hT₀ hfw' hwd' hwd0 hll' hpos hws hj' ?_; (case B => k_asm); (case F => k_asm); (case X => k_asm); (case T => k_asm); (case hk => rfl); (case hd1 => ktr_room); (case hu => ktr_units); (case G => assumption); (case N => k_asm); (case ht => assumption); (case ht2 => assumption); intro t₁ ps₁ ps₂ h₁ g₁ tk₁ F₁ N₁ hT₁ hT₂ hG₁; (try k_sweep)) | (refine' append_call ?B ?F ?X ?T ?hk ?hd1 ?hu ?G d1 d2 d3 d4 d5 d6 d7 d8 d9 d10 d11 d12 d13 d14 d15 d16 d17 d18 d19 z1 z2 z3 z4 z5 ?N ?ht ?ht2 PA' ?hsz ?hlen ?hfw ?hwd ?hll ?hfb ?_; (case B => k_asm); (case F => k_asm); (case X => k_asm); (case T => k_asm); (case hk => rfl); (case hd1 => ktr_room); (case hu => ktr_units); (case G => assumption); (case N => k_asm); (case ht => assumption); (case ht2 => assumption); (case hsz => assumption); (case hlen => assumption); (case hwd => assumption); (case hll => assumption); (case hfw => first | exact Nat.zero_le _ | decide +kernel); (case hfb => first | exact fun _ => rfl | exact fun h => absurd hnil h); intro items₁ ep₁ parts₁ lt₁ le₁ nw₁ ps₁ ps₂ h₁ g₁ tk₁ t₁ F₁ N₁ PA₁ y1 y2 y3 y4 y5 hnw₁ hT₁ hT₂ hG₁ hln₁ hst₁; (try k_sweep)))))) | walk1)
    · have hi0 : i ≠ 0 := by lia
      exact fold_step_end F₁ N₁ PA₁ ⟨y1, y2, y3, y4, y5⟩ hnw₁ hsubn hoffn hT₁ hT₂ hG₁ hfix (by simp) (by rw [hoi'.1]; simp) (by simp) (by lia) (by rw [foldAll_take (chunksOf_succ hi0 hwi), ← hst]; exact hst₁)
    · have hi0 : i = 0 := by lia
      subst hi0
      have hnil : items = [] := List.eq_nil_of_length_eq_zero (Nat.le_zero.mp hil)
      repeat (first | with_reducible ((with_reducible show wpAny _ _ (call (Value.ref _) _) _ _ _); ((k_here; k_dflt (first | (refine' newfmt_call ?B ?F ?X ?T ?hk ?hd1 ?N ?_; (case B => k_asm); (case F => k_asm); (case X => k_asm); (case T => k_asm); (case hk => rfl); (case hd1 => ktr_room); (case N => k_asm); intro x dx lx f fd hs tk0 h₁ tk₁ f1 f2 f3 f4 f5 f6 k1 k2 k3 k4 k5 k6 t3 F₁ N₁ l₁ l₂ l₃ l₄ l₅; (try k_sweep)) | (refine' fstr_call ?B ?F ?X ?T ?hk ?hd1 ?hu ?G d1 d2 d3 d4 d5 d6 d7 d8 d9 d10 d11 d12 d13 d14 d15 d16 d17 d18 d19 z1 z2 z3 z4 z5 ?N ?ht ?ht2 PA' hsz' hlen' hT₀ hfw' hwd' hwd0 hll' hpos hws hj' ?_; (case B => k_asm); (case F => k_asm); (case X => k_asm); (case T => k_asm); (case hk => rfl); (case hd1 => ktr_room); (case hu => ktr_units); (case G => assumption); (case N => k_asm); (case ht => assumption); (case ht2 => assumption); intro t₁ ps₁ ps₂ h₁ g₁ tk₁ F₁ N₁ hT₁ hT₂ hG₁; (try k_sweep)) | (refine' append_call ?B ?F ?X ?T ?hk ?hd1 ?hu ?G d1 d2 d3 d4 d5 d6 d7 d8 d9 d10 d11 d12 d13 d14 d15 d16 d17 d18 d19 z1 z2 z3 z4 z5 ?N ?ht ?ht2 PA' ?hsz ?hlen ?hfw ?hwd ?hll ?hfb ?_; (case B => k_asm); (case F => k_asm); (case X => k_asm); (case T => k_asm); (case hk => rfl); (case hd1 => ktr_room); (case hu => ktr_units); (case G => assumption); (case N => k_asm); (case ht => assumption); (case ht2 => assumption); (case hsz => assumption); (case hlen => assumption); (case hwd => assumption); (case hll => assumption); (case hfw => first | exact Nat.zero_le _ | decide +kernel); (case hfb => first | exact fun _ => rfl | exact fun h => absurd hnil h); intro items₁ ep₁ parts₁ lt₁ le₁ nw₁ ps₁ ps₂ h₁ g₁ tk₁ t₁ F₁ N₁ PA₁ y1 y2 y3 y4 y5 hnw₁ hT₁ hT₂ hG₁ hln₁ hst₁; (try k_sweep)))))) | walk1)
      exact fold_step_end F₁ N₁ PA₁ ⟨y1, y2, y3, y4, y5⟩ hnw₁ hsubn hoffn hT₁ hT₂ hG₁ hfix (by simp) (by rw [hoi'.1]; simp) (by simp) (by lia) (by rw [foldAll_take (chunksOf_zero hwi), ← hst]; exact hst₁)
  case fin =>
    rintro m₁ news₁ g₁ h₄ tk₄ ⟨pv, wv, items, ep, parts, lt, le, nw', ps', ps2', t0', t2', t4', rfl, rfl, PA', z1, z2, z3, z4, z5, hsubn, hT1, hT2, hG', hil, hst⟩ F₅ N₅
    have hlw' : (strValues ll).length = words.length := by rw [← hsp, ← hlw]; simp [strValues]
    rw [hlw', ← chunksOf_length, List.take_length, hfin] at hst
    obtain ⟨hlt, rfl⟩ := Prod.mk.inj hst
    have hch : ∀ p ∈ pp ++ [(fw, wd)], p ∈ chunksOf words := fun p hp => by
      refine foldAll_parts (width := width) _ ?_
      rw [hfin]
      exact hp
    have hlen0 : ∀ p ∈ pp ++ [(fw, wd)], p.1.length ≤ 1000 ∧ p.2.length ≤ 1000 := fun p hp => by
      obtain ⟨h1, h2⟩ := chunksOf_mem (hch p hp)
      refine ⟨?_, hww _ h2⟩
      rcases h1 with h1 | h1 <;> rw [h1] <;> decide +kernel
    have hlen' : ∀ p ∈ pp, p.1.length ≤ 1000 ∧ p.2.length ≤ 1000 := fun p hp => hlen0 p (List.mem_append_left _ hp)
    have hfw' := (hlen0 (fw, wd) (by simp)).1
    have hwd' := (hlen0 (fw, wd) (by simp)).2
    have hll' : lt.length ≤ 800 := by
      have e4 := foldAll_lines (width := width) (chunksOf words)
      rw [hfin, ← hlt, List.length_map, chunksOf_length] at e4
      exact Nat.le_trans e4 (Nat.le_trans hwl (by decide))
    have hj' : JoinOk (Str.ofString "\n") (lt.map Prod.fst ++ [lineOf (pp ++ [(fw, wd)])]) = true := by rw [hlt]; exact hj
    rw [hlw'] at hil
    obtain ⟨items', T₀, ta, tb, rfl, hT₀, PA'⟩ := PA'.unsnoc
    have hsz' : items'.length ≤ 800 := by simp at hil; lia
    clear N₂ N₃ N₄ F₂ F₃
    dsimp only
    repeat (first | with_reducible ((with_reducible show wpAny _ _ (call (Value.ref _) _) _ _ _); ((k_here; k_dflt (first | (refine' newfmt_call ?B ?F ?X ?T ?hk ?hd1 ?N ?_; (case B => k_asm); (case F => k_asm); (case X => k_asm); (case T => k_asm); (case hk => rfl); (case hd1 => ktr_room); (case N => k_asm); intro x dx lx f fd hs tk0 h₁ tk₁ f1 f2 f3 f4 f5 f6 k1 k2 k3 k4 k5 k6 t3 F₁ N₁ l₁ l₂ l₃ l₄ l₅; (try k_sweep)) | (refine' fstr_call ?B ?F ?X ?T ?hk ?hd1 ?hu ?G d1 d2 d3 d4 d5 d6 d7 d8 d9 d10 d11 d12 d13 d14 d15 d16 d17 d18 d19 z1 z2 z3 z4 z5 ?N ?ht ?ht2 PA' hsz' hlen' hT₀ hfw' hwd' hwd0 hll' hpos hws hj' ?_; (case B => k_asm); (case F => k_asm); (case X => k_asm); (case T => k_asm); (case hk => rfl); (case hd1 => ktr_room); (case hu => ktr_units); (case G => assumption); (case N => k_asm); (case ht => assumption); (case ht2 => assumption); intro t₁ ps₁ ps₂ h₁ g₁ tk₁ F₁ N₁ hT₁ hT₂ hG₁; (try k_sweep)) | (refine' append_call ?B ?F ?X ?T ?hk ?hd1 ?hu ?G d1 d2 d3 d4 d5 d6 d7 d8 d9 d10 d11 d12 d13 d14 d15 d16 d17 d18 d19 z1 z2 z3 z4 z5 ?N ?ht ?ht2 PA' ?hsz ?hlen ?hfw ?hwd ?hll ?hfb ?_; (case B => k_asm); (case F => k_asm); (case X => k_asm); (case T => k_asm); (case hk => rfl); (case hd1 => ktr_room); (case hu => ktr_units); (case G => assumption); (case N => k_asm); (case ht => assumption); (case ht2 => assumption); (case hsz => assumption); (case hlen => assumption); (case hwd => assumption); (case hll => assumption); (case hfw => first | exact Nat.zero_le _ | decide +kernel); (case hfb => first | exact fun _ => rfl | exact fun h => absurd hnil h); intro items₁ ep₁ parts₁ lt₁ le₁ nw₁ ps₁ ps₂ h₁ g₁ tk₁ t₁ F₁ N₁ PA₁ y1 y2 y3 y4 y5 hnw₁ hT₁ hT₂ hG₁ hln₁ hst₁; (try k_sweep)))))) | walk1)
    rw [hlt]
    (with_reducible rename Fr h₀ L _ m => F₈)
    (with_reducible rename News h₀ L _ _ => N₈)
    exact hret _ _ _ _ _ _ _ F₈ N₈ hsubn (by assumption) (by assumption) (by assumption)
end
end Mine
end
end
example : True ∧ True := by first | (w_top off; walk1; done) | exact ⟨trivial, trivial⟩
section
open PySem PySem.W PySem.Spec PySem.Calls PyProof.Rows Builtin Builtin.ObjectAttr
example : (fun (_ : OpenLaw) (_ : Params → Frag) => True) PySem.Challenge.rw_tc0044_01 Mine.hd.heap_39 := by k_fill; trivial
namespace Mine
section
variable {w : World} {pT : Program} {loose : List Str} {mean : ExcName → Option Value} {mg mb : Str → Option Value}
theorem subst_call {a1 b1 : Str} {ta tb : Tok} {nw : List (Addr × Obj)} {dp un : Nat} {gd : Option (List Code)} {cn : Str} {cs : Scope} {a : Addr} {ccd : Value} {cl : List (Str × Addr)} {outer : List Env} {A₀ : Around} {base h₀ : Heap} {L : Addr} {m : Str → Option Value} {s : Shared} {Q E : Value → Shared → Prop}
    (B : Below A₀ base outer h₀) (F : Fr h₀ L s.heap m) (X : (Mine.hd.heap_39 w.params).In h₀) (T : Top pT loose mean mg mb h₀) (hk : cs.kind = .function)
    (hd1 : dp + 8 < recursionLimit) (hla : Builtin.Str.tooLong (Txt.lower a1).length = false) (hlb : Builtin.Str.tooLong (Txt.lower b1).length = false) (N : News h₀ L s.heap nw)
    (hret : ∀ v t' h' tk', Fr h₀ L h' m → News h₀ L h' nw → v = (if a1 = b1 then 0 else if Txt.lower a1 = Txt.lower b1 then 1 else 2) → Q (.int v t') ⟨h', s.gens, s.drawn, tk', s.os⟩) :
    wpAny (model PySem.Challenge.pw_tc0044_01 w) (ktrTop dp un gd cn cs L a ccd cl outer) (call (.ref 203) [.str a1 ta, .str b1 tb]) Q E s := by
  refine wpAny_call ?_
  k_dflt (refine' code_def (binds := [(Str.ofString "ch_a", .str a1 ta), (Str.ofString "ch_b", .str b1 tb)]) ?k1 ?k2 ?k3 ?k4 ?k5 ?kA ?kF ?kK ?k6 ?k7 ?k8 ?k9 ?kB ?_ ?c2 ?c3 ?c4 ?c5; (case kA => exact rfl); (case kF => exact rfl); (case kK => assumption); (case k1 => k_asm); (case k2 => k_asm); (case k3 => k_asm); (case k4 => k_asm); (case k5 => k_asm); (case k6 => k_is); (case k7 => k_is); (case k8 => ktr_room); (case k9 => exact BindsTo.of_eq rfl); (case c5 => decide); (case kB => exact locs rfl); (case c2 => exact rfl); (case c3 => exact rfl); (case c4 => exact rfl); k_whole; intro g' L' h' FG' F' N' B' X' T'; (try dsimp only); (try k_lift B'); (try k_fold); (try k_sweep))
  (repeat' (first | (k_unfold; (try dsimp only)) | (k_end; wrow_close) | (first | with_reducible ((with_reducible show wpAny _ _ (call (Value.builtin "str.lower") _) _ _ _); ((k_dflt (refine SC.lower (by assumption) ?_)))) | walk1) | dsimp only | (leave1; try dsimp only)))
  · (with_reducible rename Fr h₀ L _ m => F₈)
    (with_reducible rename News h₀ L _ _ => N₈)
    have e : a1 = b1 := by simp_all
    exact hret _ _ _ _ F₈ N₈ (by rw [if_pos e])
  · (with_reducible rename Fr h₀ L _ m => F₈)
    (with_reducible rename News h₀ L _ _ => N₈)
    have e : ¬ a1 = b1 := by simp_all
    have e2 : Txt.lower a1 = Txt.lower b1 := by simp_all
    exact hret _ _ _ _ F₈ N₈ (by rw [if_neg e, if_pos e2])
  · (with_reducible rename Fr h₀ L _ m => F₈)
    (with_reducible rename News h₀ L _ _ => N₈)
    have e : ¬ a1 = b1 := by simp_all
    have e2 : ¬ Txt.lower a1 = Txt.lower b1 := by simp_all
    exact hret _ _ _ _ F₈ N₈ (by rw [if_neg e, if_neg e2])
end
end Mine
end
section
open PySem PySem.W PySem.Spec PySem.Calls PyProof.Rows Builtin Builtin.ObjectAttr
open PyProof.Rows.LCg (lst lst_snoc)
namespace Mine
structure Turns (prog : Program) (w : World) (A : Around) (I : Addr) (fp wr : List Addr) (n : Nat) (target : Expr) (env : Env) (X : Nat → (Str → Option Value) → Prop) (St : Nat → Heap → Prop) : Prop where
  sub : ∀ b ∈ wr, b ∈ fp
  frame : ∀ i h h', St i h → (∀ b ∈ fp, ∀ o, h.get? b = some o → h'.get? b = some o) → St i h'
  item : ∀ i (s : Shared) m' (G : Shared → Prop) (E1 E2 E3 : Value → Shared → Prop), i < n → St i s.heap → s.heap.Ns env.locals m' → env.locals ∉ fp →
    (∀ h' tk m₂, X i m₂ → h'.Ns env.locals m₂ → St (i + 1) h' → (∀ b o, b ∉ wr → b ≠ env.locals → s.heap.get? b = some o → h'.get? b = some o) → G { s with heap := h', toks := tk }) →
    wpAny (model prog w) A (pyNext (.ref I)) (fun r s₁ => match r with
      | none => False
      | some v => wpAny (model prog w) A (letOwnedTupleGo target (.ref I) v) (fun _ s₀ => wpAny (model prog w) A (assign target env v) (fun _ s₂ => G s₂) E1 s₀) E2 s₁) E3 s
  done : ∀ (s : Shared) (Q : Option Value → Shared → Prop) (E : Value → Shared → Prop), St n s.heap →
    (∀ h' tk, (∀ b o, b ∉ wr → s.heap.get? b = some o → h'.get? b = some o) → Q none { s with heap := h', toks := tk }) → wpAny (model prog w) A (pyNext (.ref I)) Q E s
  self : ∀ i (s : Shared) (Q : Value → Shared → Prop) (E : Value → Shared → Prop), St i s.heap → Q (.ref I) s → wpAny (model prog w) A (pyIter (.ref I)) Q E s
section
variable {prog : Program} {w : World} {A : Around} {E : Value → Shared → Prop} {s : Shared} {env : Env} {I : Addr} {fp wr : List Addr} {n : Nat} {St : Nat → Heap → Prop}
theorem Turns.pair {Pt : Nat → Array Value → Prop} {Mid : Nat → Addr → Heap → Prop} {P : Nat → Value → Value → Prop} {a b : Str} {pa pb tp : Pos} {kk : Nat} (W : WalksT prog w A I fp wr n Pt St Mid) (hh : A.handled = none)
    (hP : ∀ i vals, Pt i vals → ∃ x y, vals = #[x, y] ∧ P i x y) (ha : env.kindOf a = some .local) (hb : env.kindOf b = some .local) (hab : a ≠ b) (hp : (env.scope.kind == .class || (env.scope.kind == .module && env.locals != env.globals)) = false) :
    Turns prog w A I fp wr n (.Tuple [.Name a pa, .Name b pb] kk tp) env (fun i m₂ => ∃ x y, P i x y ∧ m₂ a = some x ∧ m₂ b = some y) St where
  sub := W.sub
  frame := W.frame
  done := W.done
  self := W.self
  item := fun i s m' G E1 E2 E3 hi hst hn hLf hG => by
    refine W.item i _ _ _ hi hst fun T vals h' tk hPt _ hT hM hk => ?_
    refine W.go _ _ _ i T _ _ _ hM fun h₂ hst₂ hk₂ => ?_
    obtain ⟨x, y, rfl, hxy⟩ := hP i vals hPt
    have hLw : env.locals ∉ wr := fun h => hLf (W.sub _ h)
    have hT₂ : h₂.IsTuple T #[x, y] := hT.at fun o e => hk₂ T o (W.apart i T _ hM) e
    refine kcp_assign (m := m') hh hT₂ ha hb hp ((hn.at' fun o e => hk _ o hLw e).at' fun o e => hk₂ _ o hLw e) fun h₄ tk₄ hn₄ hs₄ => ?_
    refine hG h₄ tk₄ _ ⟨x, y, hxy, ?_, ?_⟩ hn₄ (W.frame _ _ _ hst₂ fun b hb o e => hs₄ b o (fun q => hLf (q ▸ hb)) e) fun b o hb hbL e => hs₄ b o hbL (hk₂ b o hb (hk b o hb e))
    · simp [hab]
    · simp
theorem Turns.name {P : Nat → Value → Prop} {x : Str} {px : Pos} (W : Walks prog w A I fp wr n P St) (hx : env.kindOf x = some .local) (hp : (env.scope.kind == .class || (env.scope.kind == .module && env.locals != env.globals)) = false)
    (ht : ∀ it v, letOwnedTupleGo (.Name x px) it v = pure () := by intro _ _; rfl) :
    Turns prog w A I fp wr n (.Name x px) env (fun i m₂ => ∃ v, P i v ∧ m₂ x = some v) St where
  sub := W.sub
  frame := W.frame
  done := W.done
  self := W.self
  item := fun i s m' G E1 E2 E3 hi hst hn hLf hG => by
    have hLw : env.locals ∉ wr := fun h => hLf (W.sub _ h)
    refine W.item i _ _ _ hi hst fun v h₁ tk₁ hPv hst₁ hk₁ => ?_
    refine wpAny_of_eq (ht _ v) ?_
    refine wpAny_assign_Name (wpAny_storeName_local hx (hn.at' fun o e => hk₁ _ o hLw e) (fun h₂ hn₂ hs₂ => ?_) hp)
    exact hG h₂ _ _ ⟨v, hPv, by simp⟩ hn₂ (W.frame _ _ _ hst₁ fun b hb o e => hs₂.extBut b o (fun h => hLf (h ▸ hb)) e) fun b o hb hbL e => hs₂.extBut b o hbL (hk₁ b o hb e)
noncomputable abbrev ifsOk (ifs : List Expr) (env : Env) : Sem Bool := forIn ifs true fun c r => if r = true then do let ok ← isTrue c env (eval c env); pure (ForInStep.yield ok) else pure (ForInStep.yield r)
noncomputable def OutsL (keep : Nat → Bool) (Out : Nat → Value → Prop) (i : Nat) (ys : List Value) : Prop := Paired Out ((List.range i).filter keep) ys
noncomputable def KeepsC (C : Addr) (m : Str → Option Value) (s s' : Shared) : Prop := ∃ h' tk, s' = { s with heap := h', toks := tk } ∧ (∀ b o, b ≠ C → s.heap.get? b = some o → h'.get? b = some o) ∧ h'.Ns C m
theorem keeps_toC {C : Addr} {m : Str → Option Value} {s s' : Shared} (hn : s.heap.Ns C m) (k : Keeps s s') : KeepsC C m s s' := by
  obtain ⟨h', tk, rfl, k⟩ := k
  exact ⟨h', tk, rfl, fun b o _ e => k b o e, hn.keeps k⟩
inductive CompInv (s : Shared) (n : Nat) (D C : Addr) (wr : List Addr) (St : Nat → Heap → Prop) (keep : Nat → Bool) (Out : Nat → Value → Prop) (k : Nat) (s' : Shared) : Prop
  | mk (h' : Heap) (tk : Nat) (m' : Str → Option Value) (ys : List Value) (i : Nat) (h1 : s' = { s with heap := h', toks := tk }) (h2 : i ≤ n) (h3 : k = n + 1 - i) (h4 : ys.length ≤ i) (h5 : St i h') (h6 : h'.get? D = some (lst ys)) (h7 : h'.Ns C m') (h8 : OutsL keep Out i ys)
      (h9 : ∀ b o, b ≠ C → b ∉ wr → b ≠ D → s.heap.get? b = some o → h'.get? b = some o) : CompInv s n D C wr St keep Out k s'
theorem gcomp_loop {R : Result → Shared → Prop} {elt target iter : Expr} {ifs : List Expr} {scope : Scope} {pos : Pos} {D : Addr} {cenv : Env} {m : Str → Option Value} {X : Nat → (Str → Option Value) → Prop} (T : Turns prog w A I fp wr n target cenv X St) (keep : Nat → Bool) (Out : Nat → Value → Prop)
    (hDC : D ≠ cenv.locals) (hDf : D ∉ fp) (hCf : cenv.locals ∉ fp) (hsz : n ≤ sizeLine)
    (hst : St 0 s.heap) (hacc : s.heap.get? D = some (lst [])) (hn : s.heap.Ns cenv.locals m)
    (htests : ∀ i h₂ tk₂ m₂ E', i < n → X i m₂ → h₂.Ns cenv.locals m₂ → (∀ b o, b ≠ cenv.locals → b ∉ wr → b ≠ D → s.heap.get? b = some o → h₂.get? b = some o) →
      wpAny (model prog w) A (ifsOk ifs cenv) (fun ok s₃ => ok = keep i ∧ KeepsC cenv.locals m₂ { s with heap := h₂, toks := tk₂ } s₃) E' { s with heap := h₂, toks := tk₂ })
    (helt : ∀ i h₂ tk₂ m₂ E', i < n → keep i = true → X i m₂ → h₂.Ns cenv.locals m₂ → (∀ b o, b ≠ cenv.locals → b ∉ wr → b ≠ D → s.heap.get? b = some o → h₂.get? b = some o) →
      wpAny (model prog w) A (eval elt cenv) (fun y s₃ => Out i y ∧ KeepsC cenv.locals m₂ { s with heap := h₂, toks := tk₂ } s₃) E' { s with heap := h₂, toks := tk₂ })
    (hR : ∀ h' tk m' ys, h'.Ns cenv.locals m' → h'.get? D = some (lst ys) → OutsL keep Out n ys → ys.length ≤ n →
      (∀ b o, b ≠ cenv.locals → b ∉ wr → b ≠ D → s.heap.get? b = some o → h'.get? b = some o) → R (.ok .next) { s with heap := h', toks := tk }) :
    codeAny (model prog w) A (.compLoop (.ListComp elt [⟨target, iter, ifs, 0⟩] scope pos) 0 (.ref I) (.ref D) cenv) R s := by
  have hCw : cenv.locals ∉ wr := fun h => hCf (T.sub _ h)
  have hDw : D ∉ wr := fun h => hDf (T.sub _ h)
  refine codeAny_loop rfl (CompInv s n D cenv.locals wr St keep Out) ?_ (n + 1)
    ⟨s.heap, s.toks, m, [], 0, rfl, Nat.zero_le _, rfl, Nat.le_refl _, hst, hacc, hn, .nil, fun _ _ _ _ _ e => e⟩
  rintro k s' ⟨H, tk, m', ys, i, rfl, hi, rfl, hyl, hst', hacc', hn', hO, hk⟩
  show wpAny _ A ((compTurn (.ListComp elt [⟨target, iter, ifs, 0⟩] scope pos) 0 (.ref I) (.ref D) cenv).onRaise (fun x => do noteFrame x cenv; theTreesLotGoes x)) _ _ _
  refine wpAny_noted ?_
  rw [compTurn_list]
  by_cases hlt : i < n
  · refine wpAny_bind (wpAny_standAt (wpAny_bind (wpAny_mono (T.item i _ m'
      (fun s₂ => wpAny (model prog w) A (ifsOk ifs cenv) (fun ok s₃ => if ok = true then wpAny (model prog w) A (eval elt cenv) (fun x s₄ => wpAny (model prog w) A (call (.builtin "list.append") [.ref D, x]) (fun _ s₅ => ∃ q, q < n + 1 - i ∧ CompInv s n D cenv.locals wr St keep Out q s₅) (notedBy (model prog w) A cenv fun e s' => R (.error e) s') s₄) (notedBy (model prog w) A cenv fun e s' => R (.error e) s') s₃
        else ∃ q, q < n + 1 - i ∧ CompInv s n D cenv.locals wr St keep Out q s₃) (notedBy (model prog w) A cenv fun e s' => R (.error e) s') s₂)
      (notedBy (model prog w) A cenv fun e s' => R (.error e) s') (notedBy (model prog w) A cenv fun e s' => R (.error e) s') _ hlt hst' hn' hCf fun h₂ tk₂ m₂ hX hn₂ hst₂ hk₂ => ?_) (fun r s₁ h₁ => ?_) fun _ _ h' => h')))
    · have up₂ : ∀ b o, b ≠ cenv.locals → b ∉ wr → b ≠ D → s.heap.get? b = some o → h₂.get? b = some o := fun b o hbC hbw hbD e => hk₂ b o hbw hbC (hk b o hbC hbw hbD e)
      refine wpAny_mono (htests i h₂ tk₂ m₂ _ hlt hX hn₂ up₂) (fun ok s₃ h₃ => ?_) fun _ _ e => e
      obtain ⟨rfl, h₃, tk₃, rfl, hk₃, hn₃⟩ := h₃
      have hst₃ : St (i + 1) h₃ := T.frame _ _ _ hst₂ fun b hb o e => hk₃ b o (fun q => hCf (q ▸ hb)) e
      have hacc₃ : h₃.get? D = some (lst ys) := hk₃ _ _ hDC (hk₂ D _ hDw hDC hacc')
      have up₃ : ∀ b o, b ≠ cenv.locals → b ∉ wr → b ≠ D → s.heap.get? b = some o → h₃.get? b = some o := fun b o h1 h2 h4 e => hk₃ b o h1 (up₂ b o h1 h2 h4 e)
      cases hkp : keep i with
      | false =>
        simp only [Bool.false_eq_true, if_false]
        refine ⟨n + 1 - (i + 1), turn_lt (Nat.le_of_lt hlt), h₃, tk₃, _, ys, i + 1, rfl, hlt, rfl, Nat.le_succ_of_le hyl, hst₃, hacc₃, hn₃, ?_, up₃⟩
        unfold OutsL at hO ⊢
        rw [List.range_succ, List.filter_append]
        simpa [hkp] using hO
      | true =>
        simp only [if_true]
        refine wpAny_mono (helt i h₃ tk₃ m₂ _ hlt hkp hX hn₃ up₃) (fun y s₄ h₄ => ?_) fun _ _ e => e
        obtain ⟨hOy, h₄, tk₄, rfl, hk₄, hn₄⟩ := h₄
        refine append_at (hsz := by show ys.toArray.size ≤ sizeLine; rw [List.size_toArray]; exact Nat.le_trans hyl (Nat.le_trans hi hsz)) (hk₄ _ _ hDC hacc₃) fun h₅ hs₅ hD₅ => ?_
        refine ⟨n + 1 - (i + 1), turn_lt (Nat.le_of_lt hlt), h₅, tk₄, _, ys ++ [y], i + 1, rfl, hlt, rfl, by rw [List.length_append, List.length_singleton]; exact Nat.succ_le_succ hyl, ?_, hD₅.trans (congrArg some (lst_snoc ys y)), hn₄.sameBut hs₅ (Ne.symm hDC), ?_,
          fun b o h1 h2 h4 e => hs₅.extBut b o h4 (hk₄ b o h1 (up₃ b o h1 h2 h4 e))⟩
        · exact T.frame _ _ _ hst₃ fun b hb o e => hs₅.extBut b o (fun h => hDf (h ▸ hb)) (hk₄ b o (fun q => hCf (q ▸ hb)) e)
        · unfold OutsL at hO ⊢
          rw [List.range_succ, List.filter_append]
          have := Paired.snoc hO hOy
          simpa [hkp] using this
    · cases r with
      | none => exact h₁.elim
      | some v =>
        refine wpAny_bind (wpAny_mono h₁ (fun _ s₀ h₀' => ?_) fun _ _ h' => h')
        refine wpAny_bind (wpAny_mono h₀' (fun _ s₂ h₂ => wpAny_bind (wpAny_mono h₂ (fun ok s₃ h₃ => ?_) fun _ _ h' => h')) fun _ _ h' => h')
        cases ok with
        | false => exact wpAny_pure ⟨rfl, h₃⟩
        | true =>
          exact wpAny_bind (wpAny_bind (wpAny_mono h₃ (fun x s₄ h₄ => wpAny_bind (wpAny_mono h₄ (fun _ s₅ h₅ => wpAny_pure (wpAny_pure ⟨rfl, h₅⟩)) fun _ _ h' => h')) fun _ _ h' => h'))
  · obtain rfl : i = n := Nat.le_antisymm hi (Nat.not_lt.mp hlt)
    refine wpAny_bind (wpAny_standAt (wpAny_bind (T.done _ _ _ hst' fun h₂ tk₂ hk₂ => ?_)))
    exact wpAny_pure (hR h₂ tk₂ m' ys (hn'.at' fun o e => hk₂ _ o hCw e) (hk₂ D _ hDw hacc') hO hyl fun b o h1 h2 h3 e => hk₂ b o h2 (hk b o h1 h2 h3 e))
end
end Mine
end
section
open PySem PySem.W PySem.Spec PySem.Calls PyProof.Rows Builtin Builtin.ObjectAttr
open PyProof.Rows.LCg (lst lst_snoc)
namespace Mine
inductive GSrc (prog : Program) (w : World) (A : Around) (h₀ : Heap) (L : Addr) (m : Str → Option Value) (env : Env) (target elt : Expr) (ifs : List Expr) (scope : Scope) (cl : List (Str × Addr))
    (Fin : Shared → Nat → (Nat → Bool) → (Nat → Value → Prop) → List (Addr × Obj) → Prop) (it : Value) (s₂ : Shared) : Prop
  | mk (I : Addr) (fp wr : List Addr) (n : Nat) (X : Nat → (Str → Option Value) → Prop) (St : Nat → Heap → Prop) (keep : Nat → Bool) (Out : Nat → Value → Prop) (news : List (Addr × Obj)) (h1 : it = .ref I) (h2 : (∀ C, Turns prog w A I fp wr n target (compEnvC scope cl C env) X St)) (h3 : n ≤ sizeLine) (h4 : St 0 s₂.heap) (h5 : (∀ b ∈ fp, b < s₂.heap.objs.size)) (h6 : L ∉ wr) (h7 : (∀ b ∈ wr, h₀.get? b = none)) (h8 : (∀ p ∈ news, p.1 ∉ wr)) (h9 : Fr h₀ L s₂.heap m) (h10 : News h₀ L s₂.heap news) (h11 : (∀ C i h₂ tk₂ m₂ E', i < n → X i m₂ → h₂.Ns C m₂ → Fr h₀ L h₂ m → News h₀ L h₂ news → @Ne Nat C L → h₀.objs.size ≤ C → (∀ p ∈ news, p.1 ≠ C) → wpAny (model prog w) A (ifsOk ifs (compEnvC scope cl C env)) (fun ok s₃ => ok = keep i ∧ KeepsC C m₂ { s₂ with heap := h₂, toks := tk₂ } s₃) E' { s₂ with heap := h₂, toks := tk₂ })) (h12 : (∀ C i h₂ tk₂ m₂ E', i < n → keep i = true → X i m₂ → h₂.Ns C m₂ → Fr h₀ L h₂ m → News h₀ L h₂ news → @Ne Nat C L → h₀.objs.size ≤ C → (∀ p ∈ news, p.1 ≠ C) → wpAny (model prog w) A (eval elt (compEnvC scope cl C env)) (fun y s₃ => Out i y ∧ KeepsC C m₂ { s₂ with heap := h₂, toks := tk₂ } s₃) E' { s₂ with heap := h₂, toks := tk₂ })) (h13 : Fin s₂ n keep Out news) : GSrc prog w A h₀ L m env target elt ifs scope cl Fin it s₂
section
variable {prog : Program} {w : World} {A : Around} {E : Value → Shared → Prop} {s : Shared} {env : Env} {h₀ : Heap} {L : Addr} {m : Str → Option Value}
noncomputable def GFinE (h₀ : Heap) (L : Addr) (m : Str → Option Value) (Q : Value → Shared → Prop) (s₂ : Shared) (n : Nat) (keep : Nat → Bool) (Out : Nat → Value → Prop) (news : List (Addr × Obj)) : Prop :=
  ∀ D h' tk ys, Fr h₀ L h' m → News h₀ L h' ((D, lst ys) :: news) → (∀ p ∈ news, p.1 < D) → OutsL keep Out n ys → ys.length ≤ n → Q (.ref D) { s₂ with heap := h', toks := tk }
noncomputable def GFinA (h₀ : Heap) (L : Addr) (m : Str → Option Value) (y : Str) (Q : Flow → Shared → Prop) (s₂ : Shared) (n : Nat) (keep : Nat → Bool) (Out : Nat → Value → Prop) (news : List (Addr × Obj)) : Prop :=
  ∀ D h' tk ys, Fr h₀ L h' (fun z => if z = y then some (.ref D) else m z) → News h₀ L h' ((D, lst ys) :: news) → (∀ p ∈ news, p.1 < D) → OutsL keep Out n ys → ys.length ≤ n → Q .next { s₂ with heap := h', toks := tk }
theorem gcomp_block {elt target iter : Expr} {ifs : List Expr} {scope : Scope} {cl : List (Str × Addr)} {pos : Pos} {s₂ : Shared} {it : Value} {RR : Value → Addr → Result → Shared → Prop} {Fin : Shared → Nat → (Nat → Bool) → (Nat → Value → Prop) → List (Addr × Obj) → Prop}
    (hcell : ∀ y ∈ scope.names, y.2 ≠ .cell) (hkind : scope.kind = .function)
    (hS : GSrc prog w A h₀ L m env target elt ifs scope cl Fin it s₂)
    (hRR : ∀ D C h' tk m' ys n keep Out news, Fin s₂ n keep Out news → Fr h₀ L h' m → News h₀ L h' ((D, lst ys) :: news) → (∀ p ∈ news, p.1 < D) → h'.Ns C m' → h₀.get? C = none → C ≠ L → C ≠ D → (∀ p ∈ news, p.1 ≠ C) → OutsL keep Out n ys → ys.length ≤ n → RR (.ref D) C (.ok .next) { s₂ with heap := h', toks := tk }) :
    wpAny (model prog w) A (newList []) (fun acc s₃ => wpAny (model prog w) A (newFunctionEnv scope env.globals cl [] env.qual none .none (some env)) (fun cenv s₄ =>
      codeAny (model prog w) A (.compStart (.ListComp elt [⟨target, iter, ifs, 0⟩] scope pos) 0 it acc { cenv with scope := relabel scope env }) (RR acc cenv.locals) s₄) E s₃) E s₂ := by
  obtain ⟨I, fp, wr, n, X, St, keep, Out, news, rfl, T, hsz, hst, hfp, hLw, hwr, hnw, F, N, hte, hel, hfin⟩ := hS
  refine wpAny_newObj_type (wpAny_newFunctionEnv hcell (by intro y hy; simp at hy) (fun h₁ hns₁ hsb₁ => ?_) hkind)
  dsimp only at hns₁ hsb₁ ⊢
  generalize hH2 : s₂.heap.push { cls := .type "list", dict := none, data := .seq ([] : List Value).toArray } = H2 at hns₁ hsb₁ ⊢
  have hC : H2.objs.size = s₂.heap.objs.size + 1 := by rw [← hH2, Heap.size_push]
  have hDC : s₂.heap.objs.size ≠ H2.objs.size := by rw [hC]; exact Nat.ne_of_lt (Nat.lt_succ_self _)
  have below : ∀ b, b < s₂.heap.objs.size → b ≠ H2.objs.size ∧ b ≠ s₂.heap.objs.size := fun b hb => ⟨by rw [hC]; exact Nat.ne_of_lt (Nat.lt_succ_of_lt hb), Nat.ne_of_lt hb⟩
  have hDf : s₂.heap.objs.size ∉ fp := fun hm => Nat.lt_irrefl _ (hfp _ hm)
  have hCf : H2.objs.size ∉ fp := fun hm => by have := hfp _ hm; rw [hC] at this; exact Nat.lt_irrefl _ (Nat.lt_of_succ_lt this)
  have old : ∀ b o, s₂.heap.get? b = some o → h₁.get? b = some o := fun b o e => hsb₁.extBut b o (below b (Heap.lt_size e)).1 (Heap.get?_push_of_some _ (hH2 ▸ Heap.get?_push_of_some _ e))
  have hacc : h₁.get? s₂.heap.objs.size = some (lst []) := hsb₁.extBut _ _ hDC (Heap.get?_push_of_some _ (hH2 ▸ Heap.get?_push_size _ rfl))
  have fresh : ∀ a, s₂.heap.objs.size ≤ a → s₂.heap.get? a = none := fun a ha => by
    cases e : s₂.heap.get? a with
    | none => rfl
    | some o' => exact absurd (Heap.lt_size e) (Nat.not_lt.mpr ha)
  have fresh₀ : ∀ a, s₂.heap.objs.size ≤ a → h₀.get? a = none := fun a ha => by
    cases e : h₀.get? a with
    | none => rfl
    | some o' => have := F.keep a o' e; rw [fresh a ha] at this; cases this
  have hD₀ : h₀.get? s₂.heap.objs.size = none := fresh₀ _ (Nat.le_refl _)
  have hC₀ : h₀.get? H2.objs.size = none := fresh₀ _ (by rw [hC]; exact Nat.le_succ _)
  have hLlt : L < s₂.heap.objs.size := F.ns.lt
  have hDL : s₂.heap.objs.size ≠ L := Ne.symm (below L hLlt).2
  have hCL : H2.objs.size ≠ L := Ne.symm (below L hLlt).1
  have hCab : h₀.objs.size ≤ H2.objs.size := Nat.le_trans F.above (by rw [hC]; exact Nat.le_succ_of_le (Nat.le_of_lt hLlt))
  have toF : ∀ h' : Heap, (∀ b o, b ≠ H2.objs.size → b ∉ wr → b ≠ s₂.heap.objs.size → h₁.get? b = some o → h'.get? b = some o) → Fr h₀ L h' m ∧ News h₀ L h' news := fun h' k => by
    refine ⟨⟨F.ns.at' fun o e => k _ o (Ne.symm hCL) hLw (Ne.symm hDL) (old _ _ e), fun b o e => k b o (fun q => by rw [q, hC₀] at e; cases e) (fun q => by rw [hwr b q] at e; cases e) (fun q => by rw [q, hD₀] at e; cases e) (old _ _ (F.keep b o e)), F.above⟩, fun p hp => ⟨?_, (N p hp).2⟩⟩
    have z := Heap.lt_size (N p hp).1
    exact k _ _ (below _ z).1 (hnw p hp) (below _ z).2 (old _ _ (N p hp).1)
  have loop : ∀ s₃ : Shared, s₃ = { s₂ with heap := h₁, toks := s₂.toks + ([] : List (Str × Value)).length } →
      codeAny (model prog w) A (.compLoop (.ListComp elt [⟨target, iter, ifs, 0⟩] scope pos) 0 (.ref I) (.ref s₂.heap.objs.size) (compEnvC scope cl H2.objs.size env))
        (RR (.ref s₂.heap.objs.size) H2.objs.size) s₃ := by
    rintro s₃ rfl
    refine gcomp_loop (T H2.objs.size) keep Out hDC hDf hCf hsz (T H2.objs.size |>.frame _ _ _ hst fun b _ o e => old b o e) hacc hns₁
      (fun i h₂ tk₂ m₂ E' hi hX hn₂ k => ?_) (fun i h₂ tk₂ m₂ E' hi hk hX hn₂ k => ?_) (fun h' tk m' ys hn' hD hO hl k => ?_)
    · exact hte _ i h₂ tk₂ m₂ E' hi hX hn₂ (toF h₂ k).1 (toF h₂ k).2 hCL hCab fun p hp => (below _ (Heap.lt_size (N p hp).1)).1
    · exact hel _ i h₂ tk₂ m₂ E' hi hk hX hn₂ (toF h₂ k).1 (toF h₂ k).2 hCL hCab fun p hp => (below _ (Heap.lt_size (N p hp).1)).1
    · have z := toF h' k
      exact hRR _ _ h' tk m' ys n keep Out news hfin z.1 (news_cons z.2 hD hDL hD₀) (fun p hp => Heap.lt_size (N p hp).1) hn' hC₀ hCL (Ne.symm hDC) (fun p hp => (below _ (Heap.lt_size (N p hp).1)).1) hO hl
  exact codeAny_compStart_list (loop _ rfl) ((T H2.objs.size).self 0 _ _ _ ((T H2.objs.size).frame _ _ _ hst fun b _ o e => old b o e) (loop _ rfl))
theorem gcomp {elt target iter : Expr} {ifs : List Expr} {scope : Scope} {cl : List (Str × Addr)} {pos : Pos} {Q : Value → Shared → Prop} (_F₀ : Fr h₀ L s.heap m)
    (hclos : closureFor scope env = pure cl) (hcell : ∀ y ∈ scope.names, y.2 ≠ .cell) (hkind : scope.kind = .function)
    (hnames : ∀ y ∈ scope.names, y.2 = .local → scope.names.lookup y.1 = some .local)
    (h : wpAny (model prog w) A (eval iter env) (fun xv s₁ => wpAny (model prog w) A (pyIter xv) (GSrc prog w A h₀ L m env target elt ifs scope cl (GFinE h₀ L m Q)) E s₁) E s)
    (hs : ∀ x, foldedSetIterable iter env x = pure x := by intro _; rfl) :
    wpAny (model prog w) A (eval (.ListComp elt [⟨target, iter, ifs, 0⟩] scope pos) env) Q E s := by
  rw [eval_ListComp]
  refine wpAny_comprehension_free (use := none) rfl hs hclos hkind hnames (wpAny_mono h (fun xv s₁ h₁ => wpAny_mono h₁ (fun it s₂ h₂ => ?_) fun _ _ e => e) fun _ _ e => e)
  refine gcomp_block hcell hkind h₂ ?_
  intro D C h tk m' ys n keep Out news fin F' N' o1 hn hC₀ hCL hCD offC hO hl
  refine ⟨m', hn, fun h'' hs'' => fin D h'' tk ys (F'.change hs'' hCL hC₀) (fun p hp => ?_) o1 hO hl⟩
  refine ⟨hs''.extBut _ _ ?_ (N' p hp).1, (N' p hp).2⟩
  rcases List.mem_cons.mp hp with rfl | hp
  · exact Ne.symm hCD
  · exact offC p hp
theorem gcomp_assign {elt target iter : Expr} {y : Str} {py spos : Pos} {ifs : List Expr} {scope : Scope} {cl : List (Str × Addr)} {pos : Pos} {Q : Flow → Shared → Prop} (_F₀ : Fr h₀ L s.heap m) (hLe : env.locals = L)
    (hsw : swapsWith (.ListComp elt [⟨target, iter, ifs, 0⟩] scope pos) (some (.Name y py)) spos.line env = pure true)
    (hclos : closureFor scope env = pure cl) (hcell : ∀ y ∈ scope.names, y.2 ≠ .cell) (hkind : scope.kind = .function)
    (hnames : ∀ y ∈ scope.names, y.2 = .local → scope.names.lookup y.1 = some .local)
    (hy : env.kindOf y = some .local) (hp : (env.scope.kind == .class || (env.scope.kind == .module && env.locals != env.globals)) = false)
    (h : wpAny (model prog w) A (eval iter env) (fun xv s₁ => wpAny (model prog w) A (pyIter xv) (GSrc prog w A h₀ L m env target elt ifs scope cl (GFinA h₀ L m y Q)) E s₁) E s)
    (hs : ∀ x, foldedSetIterable iter env x = pure x := by intro _; rfl) :
    wpAny (model prog w) A (exec (.Assign [.Name y py] (.ListComp elt [⟨target, iter, ifs, 0⟩] scope pos) spos) env) Q E s := by
  subst hLe
  rw [exec_Assign_Name_used _ _ _ _ hsw]
  refine wpAny_bind (wpAny_standAt (wpAny_bind ?_))
  show wpAny _ A (do let _ ← comprehension (.ListComp elt [⟨target, iter, ifs, 0⟩] scope pos) scope env _ (newList []) false (eval iter env) (some (assign (.Name y py) env))) _ _ s
  refine wpAny_bind (wpAny_mono (wpAny_comprehension_free (use := some (assign (.Name y py) env)) (Q := fun _ s' => Q .next s') rfl hs hclos hkind hnames
    (wpAny_mono h (fun xv s₁ h₁ => wpAny_mono h₁ (fun it s₂ h₂ => ?_) fun _ _ e => e) fun _ _ e => e)) (fun _ s' hq => wpAny_pure (wpAny_pure hq)) fun _ _ e => e)
  refine gcomp_block hcell hkind h₂ ?_
  intro D C h tk m' ys n keep Out news fin F' N' o1 hn hC₀ hCL hCD offC hO hl
  show wpAny _ A (assign (.Name y py) env (.ref D)) _ _ _
  refine wpAny_assign_Name (wpAny_storeName_local hy F'.ns (fun h₂ hn₂ hs₂ => ?_) hp)
  have hL₀ : h₀.get? env.locals = none := Heap.get?_none_of_le F'.above
  have F₂ : Fr h₀ env.locals h₂ (fun z => if z = y then some (.ref D) else m z) := ⟨hn₂, fun b o e => hs₂.extBut b o (fun q => by rw [q, hL₀] at e; cases e) (F'.keep b o e), F'.above⟩
  refine ⟨m', hn.sameBut hs₂ hCL, fun h'' hs'' => fin D h'' _ ys (F₂.change hs'' hCL hC₀) (fun p hp => ?_) o1 hO hl⟩
  have z : h₂.get? p.1 = some p.2 := hs₂.extBut _ _ (N' p hp).2.1 (N' p hp).1
  refine ⟨hs''.extBut _ _ ?_ z, (N' p hp).2⟩
  rcases List.mem_cons.mp hp with rfl | hp
  · exact Ne.symm hCD
  · exact offC p hp
end
end Mine
end
section
open PySem PySem.W PySem.Spec PySem.Calls PyProof.Rows Builtin Builtin.ObjectAttr
open PyProof.Rows.LCg (lst lst_snoc)
namespace Mine
structure ZipOk (z TI TO i1 i2 : Addr) (fp1 fp2 : List Addr) : Prop where
  TIz : TI ≠ z
  TOz : TO ≠ z
  TITO : TI ≠ TO
  TIi1 : TI ≠ i1
  TIi2 : TI ≠ i2
  z1 : z ∉ fp1
  z2 : z ∉ fp2
  T1 : TO ∉ fp1
  T2 : TO ∉ fp2
  h12 : i1 ∉ fp2
  h21 : i2 ∉ fp1
  m1 : i1 ∈ fp1
  m2 : i2 ∈ fp2
section
variable {prog : Program} {w : World} {A : Around} {E : Value → Shared → Prop} {s : Shared} {z TI TO i1 i2 : Addr} {fp1 fp2 : List Addr} {n : Nat} {P1 P2 : Nat → Value → Prop} {S1 S2 : Nat → Heap → Prop}
theorem zipD_item {i : Nat} {a b : Value} {Q : Value → Shared → Prop} (Z : ZipOk z TI TO i1 i2 fp1 fp2) (D1 : Draws prog w A i1 fp1 n P1 S1) (D2 : Draws prog w A i2 fp2 n P2 S2) (hi : i < n)
    (hz : IsZip s.heap z TI TO .none) (hTI : IsPair s.heap TI (.ref i1) (.ref i2)) (hTO : IsPair s.heap TO a b) (h1 : S1 i s.heap) (h2 : S2 i s.heap)
    (hQ : ∀ T x y h' tk, P1 i x → P2 i y → s.heap.objs.size = T → IsZip h' z TI TO (rawInt T) → (∃ a b, IsPair h' TO a b) → S1 (i + 1) h' → S2 (i + 1) h' → IsPair h' T x y →
      (∀ c o, c ≠ z → c ≠ TO → c ≠ i1 → c ≠ i2 → s.heap.get? c = some o → h'.get? c = some o) → Q (.ref T) { s with heap := h', toks := tk }) :
    wpAny (model prog w) A (Builtin.«zip.__next__» ⟨[.ref z], []⟩) (fun fin s' => ∃ v, fin = .done (.ret v) ∧ Q v s') E s := by
  have e1 : ∀ b ∈ fp1, b ≠ z := fun b hb q => Z.z1 (q ▸ hb)
  have e2 : ∀ b ∈ fp2, b ≠ z := fun b hb q => Z.z2 (q ▸ hb)
  have e3 : ∀ b ∈ fp1, b ≠ TO := fun b hb q => Z.T1 (q ▸ hb)
  have e4 : ∀ b ∈ fp2, b ≠ TO := fun b hb q => Z.T2 (q ▸ hb)
  have e5 : ∀ b ∈ fp1, b ≠ i2 := fun b hb q => Z.h21 (q ▸ hb)
  have e6 : ∀ b ∈ fp2, b ≠ i1 := fun b hb q => Z.h12 (q ▸ hb)
  have i1z := e1 _ Z.m1
  have i2z := e2 _ Z.m2
  have i1T := e3 _ Z.m1
  have i2T := e4 _ Z.m2
  have i12 := e5 _ Z.m1
  show wpAny _ _ (field (.ref z) 2 >>= _) _ _ _
  refine wpAny_bind (wpAny_field hz rfl (x := .bool false) rfl ?_)
  show wpAny _ _ (field (.ref z) 3 >>= _) _ _ _
  refine wpAny_bind (wpAny_field hz rfl (x := .ref TI) rfl ?_)
  refine wpAny_bind (wpAny_seqItems hTI rfl ?_)
  show wpAny _ _ (Builtin.SmallTypes.ownedTupleIsFree (.ref z) >>= _) _ _ _
  refine wpAny_bind ?_
  unfold Builtin.SmallTypes.ownedTupleIsFree
  refine wpAny_bind (wpAny_field hz rfl (x := .none) rfl (wpAny_pure ?_))
  simp only [if_true]
  refine wpAny_bind (wpAny_rule ?_)
  refine wpAny_bind (wpAny_field hz rfl (x := .ref TO) rfl ?_)
  refine wpAny_bind (wpAny_setField_rec hz (by simp) fun h₁ hz₁ hs₁ => ?_)
  replace hz₁ : IsZip h₁ z TI TO .ellipsis := hz₁
  refine wpAny_bind ?_
  simp only [List.zipIdx_cons, List.zipIdx_nil, List.forIn_cons, List.forIn_nil]
  refine wpAny_bind (wpAny_bind (wpAny_onRaise ?_))
  show wpAny _ _ (Builtin.SmallTypes.nextOf (.ref i1) >>= _) _ _ _
  have h1₁ : S1 i h₁ := D1.frame _ _ _ h1 fun b hb o e => hs₁.extBut b o (e1 b hb) e
  have h2₁ : S2 i h₁ := D2.frame _ _ _ h2 fun b hb o e => hs₁.extBut b o (e2 b hb) e
  refine wpAny_bind (D1.item i _ _ _ hi h1₁ fun x h₂ tk₂ hPx h1₂ hs₂ => wpAny_pure ?_)
  have hTO₂ : IsPair h₂ TO a b := hs₂.extBut _ _ (Ne.symm i1T) (hs₁.extBut _ _ Z.TOz hTO)
  refine wpAny_bind (wpAny_seqItems hTO₂ rfl ?_)
  refine wpAny_bind (wpAny_updateSeq_pair hTO₂ fun h₃ hTO₃ hs₃ => ?_)
  replace hTO₃ : IsPair h₃ TO x b := hTO₃
  refine wpAny_bind (wpAny_letGo (wpAny_pure ?_))
  refine wpAny_bind (wpAny_bind (wpAny_onRaise ?_))
  show wpAny _ _ (Builtin.SmallTypes.nextOf (.ref i2) >>= _) _ _ _
  have h2₃ : S2 i h₃ := D2.frame _ _ _ h2₁ fun b hb o e => hs₃.extBut b o (e4 b hb) (hs₂.extBut b o (e6 b hb) e)
  have h1₃ : S1 (i + 1) h₃ := D1.frame _ _ _ h1₂ fun b hb o e => hs₃.extBut b o (e3 b hb) e
  refine wpAny_bind (D2.item i _ _ _ hi h2₃ fun y h₄ tk₄ hPy h2₄ hs₄ => wpAny_pure ?_)
  have h1₄ : S1 (i + 1) h₄ := D1.frame _ _ _ h1₃ fun b hb o e => hs₄.extBut b o (e5 b hb) e
  have hTO₄ : IsPair h₄ TO x b := hs₄.extBut _ _ (Ne.symm i2T) hTO₃
  refine wpAny_bind (wpAny_seqItems hTO₄ rfl ?_)
  refine wpAny_bind (wpAny_updateSeq_pair hTO₄ fun h₅ hTO₅ hs₅ => ?_)
  replace hTO₅ : IsPair h₅ TO x y := hTO₅
  refine wpAny_bind (wpAny_letGo (wpAny_pure (wpAny_pure ?_)))
  refine wpAny_bind (wpAny_seqItems hTO₅ rfl ?_)
  refine wpAny_bind (wpAny_newTuple ?_)
  have hsz : h₅.objs.size = s.heap.objs.size := by rw [hs₅.1, hs₄.1, hs₃.1, hs₂.1, hs₁.1]
  have hz₅ : IsZip h₅ z TI TO .ellipsis := hs₅.extBut _ _ (Ne.symm Z.TOz) (hs₄.extBut _ _ (Ne.symm i2z) (hs₃.extBut _ _ (Ne.symm Z.TOz) (hs₂.extBut _ _ (Ne.symm i1z) hz₁)))
  have hk₅ : ∀ c o, c ≠ z → c ≠ TO → c ≠ i1 → c ≠ i2 → s.heap.get? c = some o → h₅.get? c = some o := fun c o c1 c2 c3 c4 e =>
    hs₅.extBut _ _ c2 (hs₄.extBut _ _ c4 (hs₃.extBut _ _ c2 (hs₂.extBut _ _ c3 (hs₁.extBut _ _ c1 e))))
  have h1₅ : S1 (i + 1) h₅ := D1.frame _ _ _ h1₄ fun b hb o e => hs₅.extBut b o (e3 b hb) e
  have h2₅ : S2 (i + 1) h₅ := D2.frame _ _ _ h2₄ fun b hb o e => hs₅.extBut b o (e4 b hb) e
  have hzlt : z < h₅.objs.size := Heap.lt_size hz₅
  show wpAny _ _ (Builtin.SmallTypes.ownedTupleHandOut (.ref z) (.ref h₅.objs.size) >>= _) _ _ _
  refine wpAny_bind ?_
  unfold Builtin.SmallTypes.ownedTupleHandOut
  have hz₆ : IsZip (h₅.push { cls := .type "tuple", data := .seq #[x, y] }) z TI TO .ellipsis := Heap.get?_push_of_some _ hz₅
  refine wpAny_bind (wpAny_setField_rec hz₆ (by simp) fun h₇ hz₇ hs₇ => ?_)
  replace hz₇ : IsZip h₇ z TI TO (rawInt h₅.objs.size) := hz₇
  refine wpAny_setField_rec hz₇ (by simp) fun h₈ hz₈ hs₈ => ?_
  replace hz₈ : IsZip h₈ z TI TO (rawInt h₅.objs.size) := hz₈
  have up : ∀ c o, c ≠ z → h₅.get? c = some o → h₈.get? c = some o := fun c o c1 e => hs₈.extBut _ _ c1 (hs₇.extBut _ _ c1 (Heap.get?_push_of_some _ e))
  have hT₈ : IsPair h₈ h₅.objs.size x y := hs₈.extBut _ _ (Nat.ne_of_gt hzlt) (hs₇.extBut _ _ (Nat.ne_of_gt hzlt) (Heap.get?_push_size _ rfl))
  refine wpAny_pure ⟨_, rfl, ?_⟩
  exact hQ _ x y h₈ _ hPx hPy hsz.symm hz₈ ⟨x, y, up _ _ Z.TOz hTO₅⟩ (D1.frame _ _ _ h1₅ fun b hb o e => up b o (e1 b hb) e) (D2.frame _ _ _ h2₅ fun b hb o e => up b o (e2 b hb) e) hT₈ fun c o c1 c2 c3 c4 e => up c o c1 (hk₅ c o c1 c2 c3 c4 e)
theorem zipD_end {a b : Value} {Q : Fin → Shared → Prop} (Z : ZipOk z TI TO i1 i2 fp1 fp2) (D1 : Draws prog w A i1 fp1 n P1 S1)
    (hz : IsZip s.heap z TI TO .none) (hTI : IsPair s.heap TI (.ref i1) (.ref i2)) (hTO : IsPair s.heap TO a b) (h1 : S1 n s.heap)
    (hE : ∀ h' e, (∀ c o, c ≠ z → c ≠ TO → c ≠ i1 → c ≠ i2 → s.heap.get? c = some o → h'.get? c = some o) → (∃ o, h'.get? e = some o ∧ o.cls = .type "StopIteration") → E (.ref e) { s with heap := h' }) :
    wpAny (model prog w) A (Builtin.«zip.__next__» ⟨[.ref z], []⟩) Q E s := by
  have i1z : i1 ≠ z := fun q => Z.z1 (q ▸ Z.m1)
  show wpAny _ _ (field (.ref z) 2 >>= _) _ _ _
  refine wpAny_bind (wpAny_field hz rfl (x := .bool false) rfl ?_)
  show wpAny _ _ (field (.ref z) 3 >>= _) _ _ _
  refine wpAny_bind (wpAny_field hz rfl (x := .ref TI) rfl ?_)
  refine wpAny_bind (wpAny_seqItems hTI rfl ?_)
  show wpAny _ _ (Builtin.SmallTypes.ownedTupleIsFree (.ref z) >>= _) _ _ _
  refine wpAny_bind ?_
  unfold Builtin.SmallTypes.ownedTupleIsFree
  refine wpAny_bind (wpAny_field hz rfl (x := .none) rfl (wpAny_pure ?_))
  simp only [if_true]
  refine wpAny_bind (wpAny_rule ?_)
  refine wpAny_bind (wpAny_field hz rfl (x := .ref TO) rfl ?_)
  refine wpAny_bind (wpAny_setField_rec hz (by simp) fun h₁ hz₁ hs₁ => ?_)
  replace hz₁ : IsZip h₁ z TI TO .ellipsis := hz₁
  refine wpAny_bind ?_
  simp only [List.zipIdx_cons, List.zipIdx_nil, List.forIn_cons, List.forIn_nil]
  refine wpAny_bind (wpAny_bind (wpAny_onRaise ?_))
  show wpAny _ _ (Builtin.SmallTypes.nextOf (.ref i1) >>= _) _ _ _
  have h1₁ : S1 n h₁ := D1.frame _ _ _ h1 fun b hb o e => hs₁.extBut b o (fun q => Z.z1 (q ▸ hb)) e
  refine wpAny_bind (D1.done _ _ _ h1₁ fun h₂ e hs₂ he => ?_)
  obtain ⟨oe, hoe, hce⟩ := he
  have hz₂ : IsZip h₂ z TI TO .ellipsis := hs₂ _ _ (Ne.symm i1z) hz₁
  have hez : e ≠ z := fun x => by subst x; rw [hz₂] at hoe; cases hoe; simp at hce
  exact wpAny_setField_rec hz₂ (by simp) fun h₃ _ hs₃ => hE h₃ e (fun c o c1 _ c3 _ x => hs₃.extBut _ _ c1 (hs₂ _ _ c3 (hs₁.extBut _ _ c1 x))) ⟨oe, hs₃.extBut _ _ hez hoe, hce⟩
theorem zipD (Z : ZipOk z TI TO i1 i2 fp1 fp2) (D1 : Draws prog w A.in1 i1 fp1 n P1 S1) (D2 : Draws prog w A.in1 i2 fp2 n P2 S2) :
    WalksT prog w A z (z :: TI :: TO :: (fp1 ++ fp2)) [z, TO, i1, i2] n (fun i vals => ∃ x y, vals = #[x, y] ∧ P1 i x ∧ P2 i y)
      (fun i h => IsZip h z TI TO .none ∧ IsPair h TI (.ref i1) (.ref i2) ∧ (∃ a b, IsPair h TO a b) ∧ S1 i h ∧ S2 i h)
      (fun i T h => IsZip h z TI TO (rawInt T) ∧ IsPair h TI (.ref i1) (.ref i2) ∧ (∃ a b, IsPair h TO a b) ∧ S1 (i + 1) h ∧ S2 (i + 1) h ∧ T ∉ [z, TO, i1, i2]) where
  sub := fun c hc => by
    have := Z.m1
    have := Z.m2
    simp at hc ⊢
    rcases hc with rfl | rfl | rfl | rfl <;> simp [*]
  frame := fun i h h' hst hk => by
    obtain ⟨hz, hTI, ⟨a, b, hTO⟩, h1, h2⟩ := hst
    exact ⟨hk z (by simp) _ hz, hk TI (by simp) _ hTI, ⟨a, b, hk TO (by simp) _ hTO⟩, D1.frame _ _ _ h1 fun b hb o e => hk b (by simp [hb]) o e, D2.frame _ _ _ h2 fun b hb o e => hk b (by simp [hb]) o e⟩
  item := fun i s Q E hi hst hQ => by
    obtain ⟨hz, hTI, ⟨a, b, hTO⟩, h1, h2⟩ := hst
    have hT : s.TypeIs (.ref z) "zip" := ⟨_, hz, rfl⟩
    unfold pyNext
    refine wpAny_bind (wpAny_attempt (wpAny_callSpecial?_slot (name := Str.ofString "__next__") hT F.slot_zip_next
      (wpAny_call_entry F.slot_zip_next hT F.entry_zip_next
        (zipD_item Z D1 D2 hi hz hTI hTO h1 h2 fun T x y h' tk hx hy hsz a1 a2 a3 a4 a5 hk => wpAny_pure ?_) (F.args_zip_next_1 _))))
    have lt : ∀ {c o}, s.heap.get? c = some o → T ≠ c := fun e => hsz ▸ Nat.ne_of_gt (Heap.lt_size e)
    obtain ⟨o1, g1⟩ := D1.live _ _ h1
    obtain ⟨o2, g2⟩ := D2.live _ _ h2
    refine hQ T #[x, y] h' tk ⟨x, y, rfl, hx, hy⟩ (Nat.le_of_eq hsz) ⟨_, a5, rfl, _, rfl⟩ ⟨a1, hk _ _ Z.TIz Z.TITO Z.TIi1 Z.TIi2 hTI, a2, a3, a4, ?_⟩ fun c o hc e => hk c o (fun x => hc (by simp [x])) (fun x => hc (by simp [x])) (fun x => hc (by simp [x])) (fun x => hc (by simp [x])) e
    have q1 := lt hz
    have q2 := lt hTO
    have q3 := lt g1
    have q4 := lt g2
    simp [q1, q2, q3, q4]
  go := fun elts k pos i T s Q E hm hQ => by
    obtain ⟨hz, hTI, ⟨a, b, hTO⟩, h1, h2, _⟩ := hm
    refine wpAny_letOwnedTupleGo_zip hz fun h' hz' hs' => hQ h' ⟨hz', hs'.extBut _ _ Z.TIz hTI, ⟨a, b, hs'.extBut _ _ Z.TOz hTO⟩, D1.frame _ _ _ h1 fun b hb o e => hs'.extBut b o (fun q => Z.z1 (q ▸ hb)) e, D2.frame _ _ _ h2 fun b hb o e => hs'.extBut b o (fun q => Z.z2 (q ▸ hb)) e⟩
      fun c o hc e => hs'.extBut _ _ (fun x => hc (by simp [x])) e
  apart := fun i T h hm => hm.2.2.2.2.2
  done := fun s Q E hst hQ => by
    obtain ⟨hz, hTI, ⟨a, b, hTO⟩, h1, h2⟩ := hst
    have hT : s.TypeIs (.ref z) "zip" := ⟨_, hz, rfl⟩
    unfold pyNext
    refine wpAny_bind (wpAny_attempt (wpAny_callSpecial?_slot (name := Str.ofString "__next__") hT F.slot_zip_next
      (wpAny_call_entry F.slot_zip_next hT F.entry_zip_next (zipD_end Z D1 hz hTI hTO h1 fun h' e hk he => ?_) (F.args_zip_next_1 _))))
    obtain ⟨o, ho, hc⟩ := he
    refine wpAny_bind (wpAny_isInstance (T := "StopIteration") (b := true) ⟨o, ho, hc⟩ isSubtype_stop ?_)
    exact wpAny_pure (hQ _ _ fun c o hc e => hk c o (fun x => hc (by simp [x])) (fun x => hc (by simp [x])) (fun x => hc (by simp [x])) (fun x => hc (by simp [x])) e)
  self := fun i s Q E hst hQ => wpAny_pyIter_zip hst.1 hQ
end
end Mine
end
section
open PySem PySem.W PySem.Spec PySem.Calls PyProof.Rows Builtin Builtin.ObjectAttr
open PyProof.Rows.LCg (lst lst_snoc)
namespace Mine
section
variable {prog : Program} {w : World} {A : Around} {E : Value → Shared → Prop} {s : Shared} {env : Env} {h₀ : Heap} {L : Addr} {m : Str → Option Value} {news : List (Addr × Obj)}
variable {target elt : Expr} {ifs : List Expr} {scope : Scope} {cl : List (Str × Addr)} {Fin : Shared → Nat → (Nat → Bool) → (Nat → Value → Prop) → List (Addr × Obj) → Prop}
theorem fresh_h0 {h : Heap} (F : Fr h₀ L h m) : ∀ b, h.objs.size ≤ b → h₀.get? b = none := fun b hb => by
  cases z : h₀.get? b with
  | none => rfl
  | some o => exact absurd (Heap.lt_size (F.keep _ _ z)) (Nat.not_lt.mpr hb)
theorem comp_plain {C : Addr} (hkind : scope.kind = .function) : ((compEnvC scope cl C env).scope.kind == .class || ((compEnvC scope cl C env).scope.kind == .module && (compEnvC scope cl C env).locals != (compEnvC scope cl C env).globals)) = false := by simp [compEnvC, relabel, hkind]
theorem walksL (hh : A.handled = none) (I ax : Addr) (hne : ax ≠ I) (items : List Value) :
    Walks prog w A I [I, ax] [I] items.length (fun i v => items[i]? = some v) (fun i h => h.IsListIter I ax i ∧ h.IsList ax items.toArray) := by
  have := Walks.list (prog := prog) (w := w) hh I ax hne items.toArray
  simpa only [List.size_toArray, List.getElem?_toArray] using this
theorem drawsL (hh : A.handled = none) (it l : Addr) (hne : l ≠ it) (items : List Value) :
    Draws prog w A it [it, l] items.length (fun i v => items[i]? = some v) (fun i h => h.IsListIter it l i ∧ h.IsList l items.toArray) := by
  have := Draws.list (prog := prog) (w := w) hh it l hne items.toArray
  simpa only [List.size_toArray, List.getElem?_toArray] using this
noncomputable def EltEnd (P : Prop) (s s' : Shared) : Prop := P ∧ Keeps s s'
noncomputable def Elts (prog : Program) (w : World) (A : Around) (h₀ : Heap) (L : Addr) (m : Str → Option Value) (news : List (Addr × Obj)) (env : Env) (elt : Expr) (ifs : List Expr) (scope : Scope) (cl : List (Str × Addr)) (s : Shared) (X : Nat → (Str → Option Value) → Prop) (keep : Nat → Bool) (Out : Nat → Value → Prop) : Prop :=
  ∀ C i (s' : Shared) m₂ E', (∃ h₂ tk₂, s' = { s with heap := h₂, toks := tk₂ }) → X i m₂ → Fr h₀ C s'.heap m₂ → News h₀ C s'.heap news →
    wpAny (model prog w) A (ifsOk ifs (compEnvC scope cl C env)) (fun ok s₃ => EltEnd (ok = keep i) s' s₃) E' s' ∧
    (keep i = true → wpAny (model prog w) A (eval elt (compEnvC scope cl C env)) (fun y s₃ => EltEnd (Out i y) s' s₃) E' s')
noncomputable def EltEndC (P : Prop) (C : Addr) (m : Str → Option Value) (s s' : Shared) : Prop := P ∧ KeepsC C m s s'
noncomputable def EltsC (prog : Program) (w : World) (A : Around) (h₀ : Heap) (news : List (Addr × Obj)) (env : Env) (elt : Expr) (ifs : List Expr) (scope : Scope) (cl : List (Str × Addr)) (s : Shared) (X : Nat → (Str → Option Value) → Prop) (keep : Nat → Bool) (Out : Nat → Value → Prop) : Prop :=
  ∀ C i (s' : Shared) m₂ E', (∃ h₂ tk₂, s' = { s with heap := h₂, toks := tk₂ }) → X i m₂ → Fr h₀ C s'.heap m₂ → News h₀ C s'.heap news →
    wpAny (model prog w) A (ifsOk ifs (compEnvC scope cl C env)) (fun ok s₃ => EltEndC (ok = keep i) C m₂ s' s₃) E' s' ∧
    (keep i = true → wpAny (model prog w) A (eval elt (compEnvC scope cl C env)) (fun y s₃ => EltEndC (Out i y) C m₂ s' s₃) E' s')
theorem Elts.toC {X : Nat → (Str → Option Value) → Prop} {keep : Nat → Bool} {Out : Nat → Value → Prop} (h : Elts prog w A h₀ 0 (fun _ => none) news env elt ifs scope cl s X keep Out) : EltsC prog w A h₀ news env elt ifs scope cl s X keep Out := fun C i s' m₂ E' hs hX F N =>
  have z := h C i s' m₂ E' hs hX F N
  ⟨wpAny_mono z.1 (fun _ _ q => ⟨q.1, keeps_toC F.ns q.2⟩) fun _ _ e => e, fun k => wpAny_mono (z.2 k) (fun _ _ q => ⟨q.1, keeps_toC F.ns q.2⟩) fun _ _ e => e⟩
noncomputable def EltEnd2 (P : Prop) (h₀ : Heap) (C : Addr) (m : Str → Option Value) (nw : List (Addr × Obj)) (s s' : Shared) : Prop := P ∧ ∃ h' tk, s' = { s with heap := h', toks := tk } ∧ Fr h₀ C h' m ∧ News h₀ C h' nw
noncomputable def Elts2 (prog : Program) (w : World) (A : Around) (h₀ : Heap) (news : List (Addr × Obj)) (env : Env) (elt : Expr) (ifs : List Expr) (scope : Scope) (cl : List (Str × Addr)) (s : Shared) (X : Nat → (Str → Option Value) → Prop) (keep : Nat → Bool) (Out : Nat → Value → Prop) : Prop :=
  ∀ C i (s' : Shared) m₂ E' ext, (∃ h₂ tk₂, s' = { s with heap := h₂, toks := tk₂ }) → X i m₂ → Fr h₀ C s'.heap m₂ → News h₀ C s'.heap (news ++ ext) →
    wpAny (model prog w) A (ifsOk ifs (compEnvC scope cl C env)) (fun ok s₃ => EltEnd2 (ok = keep i) h₀ C m₂ (news ++ ext) s' s₃) E' s' ∧
    (keep i = true → wpAny (model prog w) A (eval elt (compEnvC scope cl C env)) (fun y s₃ => EltEnd2 (Out i y) h₀ C m₂ (news ++ ext) s' s₃) E' s')
noncomputable def allBut (h₀ h : Heap) (C : Addr) : List (Addr × Obj) := (List.range h.objs.size).filterMap fun b => if b = C then none else match h₀.get? b, h.get? b with
  | none, some o => some (b, o)
  | _, _ => none
theorem mem_allBut {h₀ h : Heap} {C : Addr} {p : Addr × Obj} : p ∈ allBut h₀ h C ↔ p.1 ≠ C ∧ h₀.get? p.1 = none ∧ h.get? p.1 = some p.2 := by
  unfold allBut
  rw [List.mem_filterMap]
  constructor
  · rintro ⟨b, _, e⟩
    split at e
    · cases e
    · rename_i hb
      split at e
      · rename_i e1 e2
        cases e
        exact ⟨hb, e1, e2⟩
      · cases e
  · rintro ⟨h1, h2, h3⟩
    refine ⟨p.1, List.mem_range.mpr (Heap.lt_size h3), ?_⟩
    rw [if_neg h1, h2, h3]
theorem end2_toC {P : Prop} {C : Addr} {m₂ : Str → Option Value} {nw : List (Addr × Obj)} {s s' : Shared} (F : Fr h₀ C s.heap m₂) (h : EltEnd2 P h₀ C m₂ (nw ++ allBut h₀ s.heap C) s s') : EltEndC P C m₂ s s' := by
  obtain ⟨p, h', tk, rfl, F', N'⟩ := h
  refine ⟨p, h', tk, rfl, fun b o hb e => ?_, F'.ns⟩
  cases z : h₀.get? b with
  | none => exact (N' (b, o) (List.mem_append_right _ (mem_allBut.mpr ⟨hb, z, e⟩))).1
  | some o₀ =>
    have := F.keep b o₀ z
    rw [e] at this
    cases this
    exact F'.keep b o z
theorem Elts2.toC {X : Nat → (Str → Option Value) → Prop} {keep : Nat → Bool} {Out : Nat → Value → Prop} (h : Elts2 prog w A h₀ news env elt ifs scope cl s X keep Out) : EltsC prog w A h₀ news env elt ifs scope cl s X keep Out := fun C i s' m₂ E' hs hX F N =>
  have z := h C i s' m₂ E' (allBut h₀ s'.heap C) hs hX F fun p hp => by
    rcases List.mem_append.mp hp with hp | hp
    · exact N p hp
    · obtain ⟨h1, h2, h3⟩ := mem_allBut.mp hp
      exact ⟨h3, h1, h2⟩
  ⟨wpAny_mono z.1 (fun _ _ q => end2_toC F q) fun _ _ e => e, fun k => wpAny_mono (z.2 k) (fun _ _ q => end2_toC F q) fun _ _ e => e⟩
theorem src_enum_str {x : Str} {t : Tok} {a b : Str} {pa pb tp : Pos} {kk : Nat} (F : Fr h₀ L s.heap m) (N : News h₀ L s.heap news) (hh : A.handled = none) (ha : x.cps.all (· < 128) = true) (hsz : x.cps.size ≤ sizeLine)
    (hkind : scope.kind = .function) (hxa : scope.names.lookup a = some .local) (hxb : scope.names.lookup b = some .local) (hab : a ≠ b) (keep : Nat → Bool) (Out : Nat → Value → Prop)
    (hel : EltsC prog w A h₀ news env elt ifs scope cl s (fun i m₂ => ∃ c t1 t2, x.cps[i]? = some c ∧ m₂ a = some (.int i t1) ∧ m₂ b = some (.str ⟨#[c]⟩ t2)) keep Out)
    (hfin : ∀ h', Fin { s with heap := h' } x.cps.size keep Out news) :
    wpAny (model prog w) A (call (.type "enumerate") [.str x t]) (fun xv s₁ => wpAny (model prog w) A (pyIter xv) (GSrc prog w A h₀ L m env (.Tuple [.Name a pa, .Name b pb] kk tp) elt ifs scope cl Fin) E s₁) E s := by
  refine call_enumerate_str fun h' hE hI hz hk => ?_
  have hst : strIterType x = "str_ascii_iterator" := by unfold strIterType; rw [if_pos ha]
  rw [hst] at hI
  refine wpAny_pyIter_enum hE ?_
  have hL := F.ns.lt
  have lt1 : s.heap.objs.size < h'.objs.size := by rw [hz]; exact Nat.lt_succ_of_lt (Nat.lt_succ_self _)
  have lt2 : s.heap.objs.size + 1 < h'.objs.size := by rw [hz]; exact Nat.lt_succ_self _
  refine ⟨s.heap.objs.size + 1, _, [s.heap.objs.size + 1, s.heap.objs.size], x.cps.size, _, _, keep, Out, news, rfl, fun C => Turns.pair (P := fun i v1 v2 => ∃ c t1 t2, x.cps[i]? = some c ∧ v1 = .int i t1 ∧ v2 = .str ⟨#[c]⟩ t2)
    (WalksT.enumerateD (Draws.strAscii (A := A.in1) hh s.heap.objs.size x t) (s.heap.objs.size + 1) (Nat.succ_ne_self _) (by simp) (by simp)) hh ?_ (lookup_relabel_local hxa) (lookup_relabel_local hxb) hab (comp_plain hkind), hsz,
    ⟨⟨_, hE⟩, hI⟩, ?_, ?_, ?_, ?_, F.keeps hk, fun p hp => ⟨hk _ _ (N p hp).1, (N p hp).2⟩, ?_, ?_, hfin h'⟩
  · rintro i vals ⟨t1, v, ⟨c, u, hc, rfl⟩, rfl⟩
    exact ⟨_, _, rfl, c, t1, u, hc, rfl, rfl⟩
  · simp only [List.mem_cons, List.not_mem_nil, or_false]
    rintro b (rfl | rfl)
    · exact lt2
    · exact lt1
  · simp only [List.mem_cons, List.not_mem_nil, or_false]
    rintro (h | h)
    · exact absurd h (Nat.ne_of_lt (Nat.lt_succ_of_lt hL))
    · exact absurd h (Nat.ne_of_lt hL)
  · simp only [List.mem_cons, List.not_mem_nil, or_false]
    rintro b (rfl | rfl)
    · exact fresh_h0 F _ (Nat.le_succ _)
    · exact fresh_h0 F _ (Nat.le_refl _)
  · intro p hp
    have := Heap.lt_size (N p hp).1
    simp only [List.mem_cons, List.not_mem_nil, or_false]
    rintro (h | h)
    · exact absurd h (Nat.ne_of_lt (Nat.lt_succ_of_lt this))
    · exact absurd h (Nat.ne_of_lt this)
  · rintro C i h₂ tk₂ m₂ E' hi ⟨v1, v2, ⟨c, t1, t2, hc, rfl, rfl⟩, h1, h2⟩ hn F' N' hC hab' hnC
    exact (hel C i { s with heap := h₂, toks := tk₂ } m₂ E' ⟨_, _, rfl⟩ ⟨c, t1, t2, hc, h1, h2⟩ ⟨hn, F'.keep, hab'⟩ (fun p hp => ⟨(N' p hp).1, hnC p hp, (N' p hp).2.2⟩)).1
  · rintro C i h₂ tk₂ m₂ E' hi hkp ⟨v1, v2, ⟨c, t1, t2, hc, rfl, rfl⟩, h1, h2⟩ hn F' N' hC hab' hnC
    exact (hel C i { s with heap := h₂, toks := tk₂ } m₂ E' ⟨_, _, rfl⟩ ⟨c, t1, t2, hc, h1, h2⟩ ⟨hn, F'.keep, hab'⟩ (fun p hp => ⟨(N' p hp).1, hnC p hp, (N' p hp).2.2⟩)).2 hkp
theorem src_list {l : Addr} {items : List Value} {k : Nat} {a : Str} {pa : Pos} (F : Fr h₀ L s.heap m) (N : News h₀ L s.heap news) (hh : A.handled = none) (hl : (l, W.listOf items.toArray k) ∈ news) (hsz : items.length ≤ sizeLine)
    (hkind : scope.kind = .function) (hxa : scope.names.lookup a = some .local) (keep : Nat → Bool) (Out : Nat → Value → Prop)
    (hel : EltsC prog w A h₀ news env elt ifs scope cl s (fun i m₂ => ∃ v, items[i]? = some v ∧ m₂ a = some v) keep Out)
    (hfin : ∀ h', Fin { s with heap := h' } items.length keep Out news) :
    wpAny (model prog w) A (pyIter (.ref l)) (GSrc prog w A h₀ L m env (.Name a pa) elt ifs scope cl Fin) E s := by
  have hls : s.heap.IsList l items.toArray := ⟨_, (N _ hl).1, rfl, k, rfl⟩
  refine wpAny_pyIter_list hls ?_
  have hL := F.ns.lt
  have hll : l < s.heap.objs.size := Heap.lt_size (N _ hl).1
  have up : ∀ b o, s.heap.get? b = some o → (s.heap.push { cls := .type "list_iterator", data := .fields #[.ref l, .int 0 0] }).get? b = some o := fun b o e => Heap.get?_push_of_some _ e
  refine ⟨s.heap.objs.size, _, [s.heap.objs.size], items.length, _, _, keep, Out, news, rfl, fun C => Turns.name (walksL hh s.heap.objs.size l (Nat.ne_of_lt hll) items) (lookup_relabel_local hxa) (comp_plain hkind), hsz,
    ⟨⟨_, Heap.get?_push_size _ rfl, rfl, rfl⟩, hls.push _⟩, ?_, ?_, ?_, ?_, F.keeps up, fun p hp => ⟨up _ _ (N p hp).1, (N p hp).2⟩, ?_, ?_, hfin _⟩
  · intro b hb
    show b < (s.heap.push _).objs.size
    rw [Heap.size_push]
    simp only [List.mem_cons, List.not_mem_nil, or_false] at hb
    rcases hb with rfl | rfl
    · exact Nat.lt_succ_self _
    · exact Nat.lt_succ_of_lt hll
  · simp only [List.mem_cons, List.not_mem_nil, or_false]
    exact Nat.ne_of_lt hL
  · simp only [List.mem_cons, List.not_mem_nil, or_false]
    rintro b rfl
    exact fresh_h0 F _ (Nat.le_refl _)
  · intro p hp
    have := Heap.lt_size (N p hp).1
    simp only [List.mem_cons, List.not_mem_nil, or_false]
    exact Nat.ne_of_lt this
  · rintro C i h₂ tk₂ m₂ E' hi ⟨v, hv, h1⟩ hn F' N' hC hab' hnC
    exact (hel C i { s with heap := h₂, toks := tk₂ } m₂ E' ⟨_, _, rfl⟩ ⟨v, hv, h1⟩ ⟨hn, F'.keep, hab'⟩ (fun p hp => ⟨(N' p hp).1, hnC p hp, (N' p hp).2.2⟩)).1
  · rintro C i h₂ tk₂ m₂ E' hi hkp ⟨v, hv, h1⟩ hn F' N' hC hab' hnC
    exact (hel C i { s with heap := h₂, toks := tk₂ } m₂ E' ⟨_, _, rfl⟩ ⟨v, hv, h1⟩ ⟨hn, F'.keep, hab'⟩ (fun p hp => ⟨(N' p hp).1, hnC p hp, (N' p hp).2.2⟩)).2 hkp
theorem src_enum_list {l : Addr} {items : List Value} {k : Nat} {a b : Str} {pa pb tp : Pos} {kk : Nat} (F : Fr h₀ L s.heap m) (N : News h₀ L s.heap news) (hh : A.handled = none) (hl : (l, W.listOf items.toArray k) ∈ news) (hsz : items.length ≤ sizeLine)
    (hkind : scope.kind = .function) (hxa : scope.names.lookup a = some .local) (hxb : scope.names.lookup b = some .local) (hab : a ≠ b) (keep : Nat → Bool) (Out : Nat → Value → Prop)
    (hel : EltsC prog w A h₀ news env elt ifs scope cl s (fun i m₂ => ∃ v t1, items[i]? = some v ∧ m₂ a = some (.int i t1) ∧ m₂ b = some v) keep Out)
    (hfin : ∀ h', Fin { s with heap := h' } items.length keep Out news) :
    wpAny (model prog w) A (call (.type "enumerate") [.ref l]) (fun xv s₁ => wpAny (model prog w) A (pyIter xv) (GSrc prog w A h₀ L m env (.Tuple [.Name a pa, .Name b pb] kk tp) elt ifs scope cl Fin) E s₁) E s := by
  have hls : s.heap.IsList l items.toArray := ⟨_, (N _ hl).1, rfl, k, rfl⟩
  refine call_enumerate_list hls fun h' hE hI hz hk => ?_
  refine wpAny_pyIter_enum hE ?_
  have hL := F.ns.lt
  have hll : l < s.heap.objs.size := Heap.lt_size (N _ hl).1
  have lt1 : s.heap.objs.size < h'.objs.size := by rw [hz]; exact Nat.lt_succ_of_lt (Nat.lt_succ_self _)
  have lt2 : s.heap.objs.size + 1 < h'.objs.size := by rw [hz]; exact Nat.lt_succ_self _
  refine ⟨s.heap.objs.size + 1, _, [s.heap.objs.size + 1, s.heap.objs.size], items.length, _, _, keep, Out, news, rfl, fun C => Turns.pair (P := fun i v1 v2 => ∃ t1, items[i]? = some v2 ∧ v1 = .int i t1)
    (WalksT.enumerateD (drawsL (A := A.in1) hh s.heap.objs.size l (Nat.ne_of_lt hll) items) (s.heap.objs.size + 1) (Nat.succ_ne_self _) (by simp; exact Ne.symm (Nat.ne_of_lt (Nat.lt_succ_of_lt hll))) (by simp)) hh ?_ (lookup_relabel_local hxa) (lookup_relabel_local hxb) hab (comp_plain hkind), hsz,
    ⟨⟨_, hE⟩, hI, hls.at fun o e => hk l o e⟩, ?_, ?_, ?_, ?_, F.keeps hk, fun p hp => ⟨hk _ _ (N p hp).1, (N p hp).2⟩, ?_, ?_, hfin h'⟩
  · rintro i vals ⟨t1, v, hv, rfl⟩
    exact ⟨_, _, rfl, t1, hv, rfl⟩
  · simp only [List.mem_cons, List.not_mem_nil, or_false]
    rintro b (rfl | rfl | rfl)
    · exact lt2
    · exact lt1
    · exact Nat.lt_trans hll lt1
  · simp only [List.mem_cons, List.not_mem_nil, or_false]
    rintro (h | h)
    · exact absurd h (Nat.ne_of_lt (Nat.lt_succ_of_lt hL))
    · exact absurd h (Nat.ne_of_lt hL)
  · simp only [List.mem_cons, List.not_mem_nil, or_false]
    rintro b (rfl | rfl)
    · exact fresh_h0 F _ (Nat.le_succ _)
    · exact fresh_h0 F _ (Nat.le_refl _)
  · intro p hp
    have := Heap.lt_size (N p hp).1
    simp only [List.mem_cons, List.not_mem_nil, or_false]
    rintro (h | h)
    · exact absurd h (Nat.ne_of_lt (Nat.lt_succ_of_lt this))
    · exact absurd h (Nat.ne_of_lt this)
  · rintro C i h₂ tk₂ m₂ E' hi ⟨v1, v2, ⟨t1, hv, rfl⟩, h1, h2⟩ hn F' N' hC hab' hnC
    exact (hel C i { s with heap := h₂, toks := tk₂ } m₂ E' ⟨_, _, rfl⟩ ⟨v2, t1, hv, h1, h2⟩ ⟨hn, F'.keep, hab'⟩ (fun p hp => ⟨(N' p hp).1, hnC p hp, (N' p hp).2.2⟩)).1
  · rintro C i h₂ tk₂ m₂ E' hi hkp ⟨v1, v2, ⟨t1, hv, rfl⟩, h1, h2⟩ hn F' N' hC hab' hnC
    exact (hel C i { s with heap := h₂, toks := tk₂ } m₂ E' ⟨_, _, rfl⟩ ⟨v2, t1, hv, h1, h2⟩ ⟨hn, F'.keep, hab'⟩ (fun p hp => ⟨(N' p hp).1, hnC p hp, (N' p hp).2.2⟩)).2 hkp
theorem zipOk_new (S l : Nat) (h : l < S) : ZipOk (S + 4) (S + 2) (S + 3) S (S + 1) [S] [S + 1, l] where
  TIz := (show @Ne Nat (S + 2) (S + 4) by lia)
  TOz := (show @Ne Nat (S + 3) (S + 4) by lia)
  TITO := (show @Ne Nat (S + 2) (S + 3) by lia)
  TIi1 := (show @Ne Nat (S + 2) S by lia)
  TIi2 := (show @Ne Nat (S + 2) (S + 1) by lia)
  z1 := (show ¬ @Membership.mem Nat (List Nat) _ [S] (S + 4) by simp)
  z2 := (show ¬ @Membership.mem Nat (List Nat) _ [S + 1, l] (S + 4) by simp; lia)
  T1 := (show ¬ @Membership.mem Nat (List Nat) _ [S] (S + 3) by simp)
  T2 := (show ¬ @Membership.mem Nat (List Nat) _ [S + 1, l] (S + 3) by simp; lia)
  h12 := (show ¬ @Membership.mem Nat (List Nat) _ [S + 1, l] S by simp; lia)
  h21 := (show ¬ @Membership.mem Nat (List Nat) _ [S] (S + 1) by simp)
  m1 := (show @Membership.mem Nat (List Nat) _ [S] S by simp)
  m2 := (show @Membership.mem Nat (List Nat) _ [S + 1, l] (S + 1) by simp)
theorem meets_zip_newSL (x : Str) (t : Tok) (l2 : Addr) (ys : Array Value) (ha : x.cps.all (· < 128) = true) :
    Meets (Builtin.«zip.__new__» ⟨[.type "zip", .str x t, .ref l2], []⟩) (fun _ R s => s.heap.IsList l2 ys ∧
      ∀ h', IsZip h' (s.heap.objs.size + 4) (s.heap.objs.size + 2) (s.heap.objs.size + 3) .none → IsPair h' (s.heap.objs.size + 2) (.ref s.heap.objs.size) (.ref (s.heap.objs.size + 1)) → IsPair h' (s.heap.objs.size + 3) .none .none →
        h'.IsStrIter s.heap.objs.size "str_ascii_iterator" x t 0 → h'.IsListIter (s.heap.objs.size + 1) l2 0 → h'.objs.size = s.heap.objs.size + 5 → (∀ c o, s.heap.get? c = some o → h'.get? c = some o) →
        R (.ok (.ret (.ref (s.heap.objs.size + 4)))) { s with heap := h' }) :=
  .of_wp fun prog w A R s h => by
    obtain ⟨hp, g, d, tk, os⟩ := s
    obtain ⟨hl2, h⟩ := h
    have hsub := sub_zip
    have hL2 : Heap.IsList (Shared.heap ⟨hp.push { cls := .type "str_ascii_iterator", data := .fields #[.str x t, .int 0 0] }, g, d, tk, os⟩) l2 ys := Heap.IsList.push hl2 _
    wp_walk using wpAny_pyIter_ascii ha, wpAny_pyIter_list hL2
    refine ⟨_, rfl, ?_⟩
    let H1 := hp.push { cls := .type "str_ascii_iterator", data := .fields #[.str x t, .int 0 0] }
    let H2 := H1.push { cls := .type "list_iterator", data := .fields #[.ref l2, .int 0 0] }
    let H3 := H2.push { cls := .type "tuple", data := .seq #[.ref hp.objs.size, .ref H1.objs.size] }
    let H4 := H3.push { cls := .type "tuple", data := .seq #[.none, .none] }
    let H5 := H4.push { cls := .type "zip", data := .fields #[.none, .bool false, .bool false, .ref H2.objs.size, .ref H3.objs.size] }
    have z1 : H1.objs.size = hp.objs.size + 1 := Heap.size_push ..
    have z2 : H2.objs.size = hp.objs.size + 2 := by rw [Heap.size_push, z1]
    have z3 : H3.objs.size = hp.objs.size + 3 := by rw [Heap.size_push, z2]
    have z4 : H4.objs.size = hp.objs.size + 4 := by rw [Heap.size_push, z3]
    have z5 : H5.objs.size = hp.objs.size + 5 := by rw [Heap.size_push, z4]
    have g5 : H5.get? H4.objs.size = some _ := Heap.get?_push_size _ rfl
    have g4 : H5.get? H3.objs.size = some _ := Heap.get?_push_of_some _ (Heap.get?_push_size _ rfl)
    have g3 : H5.get? H2.objs.size = some _ := Heap.get?_push_of_some _ (Heap.get?_push_of_some _ (Heap.get?_push_size _ rfl))
    have g2 : H5.get? H1.objs.size = some _ := Heap.get?_push_of_some _ (Heap.get?_push_of_some _ (Heap.get?_push_of_some _ (Heap.get?_push_size _ rfl)))
    have g1 : H5.get? hp.objs.size = some _ := Heap.get?_push_of_some _ (Heap.get?_push_of_some _ (Heap.get?_push_of_some _ (Heap.get?_push_of_some _ (Heap.get?_push_size _ rfl))))
    rw [z2, z3, z4] at g5
    rw [z1, z2] at g3
    rw [z3] at g4
    rw [z1] at g2
    have := h H5 g5 g3 g4 ⟨_, g1, rfl, rfl⟩ ⟨_, g2, rfl, rfl⟩ z5 fun c o e => Heap.get?_push_of_some _ (Heap.get?_push_of_some _ (Heap.get?_push_of_some _ (Heap.get?_push_of_some _ (Heap.get?_push_of_some _ e))))
    rw [← z4] at this
    exact this
theorem call_zip_SL {x : Str} {t : Tok} {l2 : Addr} {ys : Array Value} {Q : Value → Shared → Prop} (ha : x.cps.all (· < 128) = true) (hl2 : s.heap.IsList l2 ys)
    (h : ∀ h', IsZip h' (s.heap.objs.size + 4) (s.heap.objs.size + 2) (s.heap.objs.size + 3) .none → IsPair h' (s.heap.objs.size + 2) (.ref s.heap.objs.size) (.ref (s.heap.objs.size + 1)) →
      IsPair h' (s.heap.objs.size + 3) .none .none → h'.IsStrIter s.heap.objs.size "str_ascii_iterator" x t 0 → h'.IsListIter (s.heap.objs.size + 1) l2 0 → h'.objs.size = s.heap.objs.size + 5 →
      (∀ c o, s.heap.get? c = some o → h'.get? c = some o) → Q (.ref (s.heap.objs.size + 4)) { s with heap := h' }) :
    wpAny (model prog w) A (call (.type "zip") [.str x t, .ref l2]) Q E s := by
  refine callType_new F.called_zip (by decide) (F.typeCall_zip_2 _ _) (F.newCall_zip_2 _ _) (fun obj => F.args_object_init_3 obj _ _) F.entry_zip_new
    (meets_zip_newSL x t l2 ys ha) ⟨hl2, fun h' a1 a2 a3 a4 a5 a6 a7 => ?_⟩
  exact ⟨⟨_, a1, rfl⟩, h h' a1 a2 a3 a4 a5 a6 a7⟩
theorem src_zip_SL {x : Str} {t : Tok} {l : Addr} {items : List Value} {k : Nat} {a b : Str} {pa pb tp : Pos} {kk : Nat} (F : Fr h₀ L s.heap m) (N : News h₀ L s.heap news) (hh : A.handled = none) (ha : x.cps.all (· < 128) = true) (hl : (l, W.listOf items.toArray k) ∈ news) (hlen : items.length = x.cps.size) (hsz : x.cps.size ≤ sizeLine)
    (hkind : scope.kind = .function) (hxa : scope.names.lookup a = some .local) (hxb : scope.names.lookup b = some .local) (hab : a ≠ b) (keep : Nat → Bool) (Out : Nat → Value → Prop)
    (hel : EltsC prog w A h₀ news env elt ifs scope cl s (fun i m₂ => ∃ c v t2, x.cps[i]? = some c ∧ items[i]? = some v ∧ m₂ a = some (.str ⟨#[c]⟩ t2) ∧ m₂ b = some v) keep Out)
    (hfin : ∀ h', Fin { s with heap := h' } x.cps.size keep Out news) :
    wpAny (model prog w) A (call (.type "zip") [.str x t, .ref l]) (fun xv s₁ => wpAny (model prog w) A (pyIter xv) (GSrc prog w A h₀ L m env (.Tuple [.Name a pa, .Name b pb] kk tp) elt ifs scope cl Fin) E s₁) E s := by
  have hls : s.heap.IsList l items.toArray := ⟨_, (N _ hl).1, rfl, k, rfl⟩
  refine call_zip_SL ha hls fun h' g1 g2 g3 g4 g5 hz hk => ?_
  refine wpAny_pyIter_zip g1 ?_
  have hL : L < s.heap.objs.size := F.ns.lt
  have hll : l < s.heap.objs.size := Heap.lt_size (N _ hl).1
  generalize hS : s.heap.objs.size = S at *
  have lt : ∀ j, j < 5 → S + j < h'.objs.size := fun j hj => by rw [hz]; exact Nat.add_lt_add_left hj _
  have W := zipD (prog := prog) (w := w) (A := A) (z := S + 4) (TI := S + 2) (TO := S + 3) (i1 := S) (i2 := S + 1) (fp1 := [S]) (fp2 := [S + 1, l]) (n := x.cps.size)
    (zipOk_new S l hll) (Draws.strAscii (A := A.in1) hh S x t) (by have := drawsL (prog := prog) (w := w) (A := A.in1) hh (S + 1) l (Nat.ne_of_lt (Nat.lt_succ_of_lt hll)) items; rw [hlen] at this; exact this)
  refine ⟨S + 4, _, [S + 4, S + 3, S, S + 1], x.cps.size, _, _, keep, Out, news, rfl, fun C => Turns.pair (P := fun i v1 v2 => ∃ c t2, x.cps[i]? = some c ∧ v1 = .str ⟨#[c]⟩ t2 ∧ items[i]? = some v2) W hh ?_ (lookup_relabel_local hxa) (lookup_relabel_local hxb) hab (comp_plain hkind), hsz,
    ⟨g1, g2, ⟨_, _, g3⟩, g4, g5, hls.at fun o e => hk l o e⟩, ?_, ?_, ?_, ?_, F.keeps hk, fun p hp => ⟨hk _ _ (N p hp).1, (N p hp).2⟩, ?_, ?_, hfin h'⟩
  · rintro i vals ⟨v1, v2, rfl, ⟨c, u, hc, rfl⟩, hv⟩
    exact ⟨_, _, rfl, c, u, hc, rfl, hv⟩
  · have q : l < h'.objs.size := Nat.lt_trans hll (lt 0 (by decide))
    have q0 := lt 0 (by decide)
    have q1 := lt 1 (by decide)
    have q2 := lt 2 (by decide)
    have q3 := lt 3 (by decide)
    have q4 := lt 4 (by decide)
    simp only [List.mem_cons, List.not_mem_nil, or_false, List.cons_append, List.nil_append]
    rintro b (rfl | rfl | rfl | rfl | rfl | rfl) <;> assumption
  · simp only [List.mem_cons, List.not_mem_nil, or_false]
    have hL' : @LT.lt Nat _ L S := hL
    rintro (h | h | h | h) <;> (have h' : @Eq Nat L _ := h; lia)
  · have fr := fresh_h0 F
    rw [hS] at fr
    simp only [List.mem_cons, List.not_mem_nil, or_false]
    rintro b (rfl | rfl | rfl | rfl) <;> (refine fr _ ?_; first | exact Nat.le_add_right _ _ | exact Nat.le_refl _)
  · intro p hp
    have this : @LT.lt Nat _ p.1 S := hS ▸ Heap.lt_size (N p hp).1
    simp only [List.mem_cons, List.not_mem_nil, or_false]
    rintro (h | h | h | h) <;> (have h' : @Eq Nat p.1 _ := h; lia)
  · rintro C i h₂ tk₂ m₂ E' hi ⟨v1, v2, ⟨c, t2, hc, rfl, hv⟩, h1, h2⟩ hn F' N' hC hab' hnC
    exact (hel C i { s with heap := h₂, toks := tk₂ } m₂ E' ⟨_, _, rfl⟩ ⟨c, v2, t2, hc, hv, h1, h2⟩ ⟨hn, F'.keep, hab'⟩ (fun p hp => ⟨(N' p hp).1, hnC p hp, (N' p hp).2.2⟩)).1
  · rintro C i h₂ tk₂ m₂ E' hi hkp ⟨v1, v2, ⟨c, t2, hc, rfl, hv⟩, h1, h2⟩ hn F' N' hC hab' hnC
    exact (hel C i { s with heap := h₂, toks := tk₂ } m₂ E' ⟨_, _, rfl⟩ ⟨c, v2, t2, hc, hv, h1, h2⟩ ⟨hn, F'.keep, hab'⟩ (fun p hp => ⟨(N' p hp).1, hnC p hp, (N' p hp).2.2⟩)).2 hkp
end
end Mine
end
section
open PySem PySem.W PySem.Spec PySem.Calls PyProof.Rows Builtin Builtin.ObjectAttr
open PyProof.Rows.LCg (lst lst_snoc)
namespace Mine
noncomputable def intValues (ll : List (Int × Tok)) : List Value := ll.map fun p => Value.int p.1 p.2
theorem intValues_length (ll : List (Int × Tok)) : (intValues ll).length = ll.length := by simp [intValues]
theorem kf_ints_vals : ∀ ll : List (Int × Tok), kf_ints (intValues ll) = true
  | [] => rfl
  | _ :: r => kf_ints_vals r
theorem any_vals (k : Int) (ll : List (Int × Tok)) : (intValues ll).toArray.toList.any (isInt k) = decide (k ∈ ll.map Prod.fst) := by
  simp only [intValues]
  induction ll with
  | nil => rfl
  | cons p r ih =>
    simp only [List.map_cons, List.any_cons, List.mem_cons]
    rw [ih]
    show (isInt k (.int p.1 p.2) || _) = _
    by_cases h : k = p.1
    · subst h; simp [isInt]
    · have h' : ¬ p.1 = k := fun e => h e.symm
      simp [isInt, h, h']
theorem paired_ints {f : Nat → Int} : ∀ {is : List Nat} {ys : List Value}, Paired (fun i v => ∃ t, v = .int (f i) t) is ys → ∃ ll, ys = intValues ll ∧ ll.map Prod.fst = is.map f
  | _, _, .nil => ⟨[], rfl, rfl⟩
  | _, _, .cons (a := i) ⟨t, h⟩ r => by
    obtain ⟨ll, rfl, e⟩ := paired_ints r
    exact ⟨(f i, t) :: ll, by rw [h]; rfl, by simp [e]⟩
theorem paired_strs {f : Nat → Str} : ∀ {is : List Nat} {ys : List Value}, Paired (fun i v => ∃ t, v = .str (f i) t) is ys → ∃ ll, ys = strValues ll ∧ ll.map Prod.fst = is.map f
  | _, _, .nil => ⟨[], rfl, rfl⟩
  | _, _, .cons (a := i) ⟨t, h⟩ r => by
    obtain ⟨ll, rfl, e⟩ := paired_strs r
    exact ⟨(f i, t) :: ll, by rw [h]; rfl, by simp [e]⟩
theorem intsAre_vals : ∀ ll : List (Int × Tok), IntsAre (intValues ll) (ll.map Prod.fst)
  | [] => .nil
  | p :: r => .cons p.1 p.2 (intsAre_vals r)
theorem vals_intsAre : ∀ {vs : List Value} {ns : List Int}, IntsAre vs ns → ∃ ll, vs = intValues ll ∧ ll.map Prod.fst = ns
  | _, _, .nil => ⟨[], rfl, rfl⟩
  | _, _, .cons n t r => by
    obtain ⟨ll, rfl, rfl⟩ := vals_intsAre r
    exact ⟨(n, t) :: ll, rfl, rfl⟩
theorem paired_intsAre {f : Nat → Int} {is : List Nat} {ys : List Value} (h : Paired (fun i v => ∃ t, v = .int (f i) t) is ys) : IntsAre ys (is.map f) := by
  obtain ⟨ll, rfl, e⟩ := paired_ints h
  rw [← e]
  exact intsAre_vals ll
theorem lst_eq (ys : List Value) : lst ys = W.listOf ys.toArray ys.length := rfl
theorem keeps_refl (s : Shared) : Keeps s s := ⟨s.heap, s.toks, rfl, fun _ _ e => e⟩
theorem EltEnd.mk {P : Prop} {s s' : Shared} (h : P) (k : Keeps s s') : EltEnd P s s' := ⟨h, k⟩
theorem keeps_toks (s : Shared) (k : Nat) : Keeps s { s with toks := k } := ⟨s.heap, k, rfl, fun _ _ e => e⟩
section
variable {prog : Program} {w : World} {A : Around} {E : Value → Shared → Prop} {s : Shared} {h₀ : Heap} {L D : Addr} {news : List (Addr × Obj)} {n : Nat} {ll : List (Int × Tok)}
theorem in_led {k : Int} {t : Tok} {Q : Value → Shared → Prop} (N : News h₀ L s.heap news) (hm : (D, W.listOf (intValues ll).toArray n) ∈ news) (h : Q (.bool (decide (k ∈ ll.map Prod.fst))) s) :
    wpAny (model prog w) A (compareOp .In (.int k t) (.ref D)) Q E s := kf_in N hm (kf_ints_vals ll) (any_vals k ll) h
theorem notin_led {k : Int} {t : Tok} {Q : Value → Shared → Prop} (N : News h₀ L s.heap news) (hm : (D, W.listOf (intValues ll).toArray n) ∈ news) (h : Q (.bool (!decide (k ∈ ll.map Prod.fst))) s) :
    wpAny (model prog w) A (compareOp .NotIn (.int k t) (.ref D)) Q E s := kf_notin N hm (kf_ints_vals ll) (by rw [any_vals]) h
end
theorem sign_eq (c : Nat) : ((⟨#[c]⟩ : Str) == Str.ofString " ") = (c == 32) := by
  have e : Str.ofString " " = ⟨#[32]⟩ := by decide +kernel
  rw [e]
  by_cases h : c = 32
  · subst h; decide +kernel
  · have : ((⟨#[c]⟩ : Str) == ⟨#[32]⟩) = false := beq_eq_false_iff_ne.mpr (fun e => h (by injection e with e; simpa using e))
    rw [this]; simp [h]
theorem sign_eqQ (c : Nat) : ((⟨#[c]⟩ : Str) == Str.ofString "\"") = (c == 34) := by
  have e : Str.ofString "\"" = ⟨#[34]⟩ := by decide +kernel
  rw [e]
  by_cases h : c = 34
  · subst h; decide +kernel
  · have : ((⟨#[c]⟩ : Str) == ⟨#[34]⟩) = false := beq_eq_false_iff_ne.mpr (fun e => h (by injection e with e; simpa using e))
    rw [this]; simp [h]
noncomputable def blanksOf (text : Str) : List Int := ((List.range text.cps.size).filter fun i => text.cps.getD i 0 == 32).map fun (i : Nat) => ((i : Nat) : Int)
noncomputable def spotsOf (text : Str) : List Int := blanksOf text ++ [(text.length : Int)]
noncomputable def endsStep (width : Int) (st : Int × List Int) (p : Int × Int) : Int × List Int := if width < p.2 - st.1 then (p.1, st.2 ++ [p.1]) else st
noncomputable def endsFrom (width : Int) (ps : List (Int × Int)) : Int × List Int := ps.foldl (endsStep width) (0, [])
noncomputable def endsOf (text : Str) (width : Int) : List Int := (endsFrom width ((spotsOf text).zip ((spotsOf text).drop 1))).2
noncomputable def toldParts (text : Str) (ends : List Int) : List Str := (List.range text.cps.size).map fun (i : Nat) => (if ((i : Nat) : Int) ∈ ends then Str.ofString "\n" else Str.ofString "") ++ (⟨#[text.cps.getD i 0]⟩ : Str)
theorem size_three {n : Nat} (h : n ≤ 1000) : 2 * n + n ≤ 1048576 := by lia
theorem toldParts_ok (text : Str) (ends : List Int) (h : text.cps.size ≤ 1000) : JoinOk (Str.ofString "") (toldParts text ends) = true := by
  refine joinOk_of_weight ?_ (by decide +kernel)
  have h1 : ∀ is : List Nat, ((is.map fun (i : Nat) => (if ((i : Nat) : Int) ∈ ends then Str.ofString "\n" else Str.ofString "") ++ (⟨#[text.cps.getD i 0]⟩ : Str)).map (·.length)).sum ≤ 2 * is.length := by
    intro is
    induction is with
    | nil => simp
    | cons a r ih =>
      simp only [List.map_cons, List.sum_cons, List.length_cons]
      have : ((if ((a : Nat) : Int) ∈ ends then Str.ofString "\n" else Str.ofString "") ++ (⟨#[text.cps.getD a 0]⟩ : Str)).length ≤ 2 := by
        have k1 : (Str.ofString "\n").cps.size = 1 := by decide +kernel
        have k2 : (Str.ofString "").cps.size = 0 := by decide +kernel
        split
        · show (Array.append _ _).size ≤ 2
          rw [Array.append_eq_append, Array.size_append, k1]; exact Nat.le_refl _
        · show (Array.append _ _).size ≤ 2
          rw [Array.append_eq_append, Array.size_append, k2]; show 0 + 1 ≤ 2; decide
      exact Nat.le_trans (Nat.add_le_add this ih) (Nat.le_of_eq (Nat.add_comm 2 (2 * r.length)))
  have h2 := h1 (List.range text.cps.size)
  unfold toldParts
  simp only [List.length_map, List.length_range] at h2 ⊢
  exact Nat.le_trans (Nat.add_le_add_right h2 _) (size_three h)
noncomputable def toldOf (text : Str) (ends : List Int) : Str := Txt.join (Str.ofString "") (toldParts text ends)
end Mine
end
example : True ∧ True := by first | (w_top off; walk1; done) | exact ⟨trivial, trivial⟩
section
open PySem PySem.W PySem.Spec PySem.Calls PyProof.Rows Builtin Builtin.ObjectAttr
open PyProof.Rows.LCg (lst lst_snoc)
example : (fun (_ : OpenLaw) (_ : Params → Frag) => True) PySem.Challenge.rw_tc0044_01 Mine.hd.heap_39 := by k_fill; trivial
namespace Mine
section
variable {w : World} {pT : Program} {loose : List Str} {mean : ExcName → Option Value} {mg mb : Str → Option Value}
theorem told_call {text : Str} {tt : Tok} {e : Addr} {ll : List (Int × Tok)} {n : Nat} {nw : List (Addr × Obj)} {dp un : Nat} {gd : Option (List Code)} {cn : Str} {cs : Scope} {a : Addr} {ccd : Value} {cl : List (Str × Addr)} {outer : List Env} {A₀ : Around} {base h₀ : Heap} {L : Addr} {m : Str → Option Value} {s : Shared} {Q E : Value → Shared → Prop}
    (B : Below A₀ base outer h₀) (F : Fr h₀ L s.heap m) (X : (Mine.hd.heap_39 w.params).In h₀) (T : Top pT loose mean mg mb h₀) (hk : cs.kind = .function) (hd1 : dp + 12 < recursionLimit) (N : News h₀ L s.heap ((e, W.listOf (intValues ll).toArray n) :: nw)) (ha : text.cps.all (· < 128) = true) (hsz : text.cps.size ≤ 1000)
    (hret : ∀ t' h' tk', Fr h₀ L h' m → News h₀ L h' ((e, W.listOf (intValues ll).toArray n) :: nw) → Q (.str (toldOf text (ll.map Prod.fst)) t') ⟨h', s.gens, s.drawn, tk', s.os⟩) :
    wpAny (model PySem.Challenge.pw_tc0044_01 w) (ktrTop dp un gd cn cs L a ccd cl outer) (call (.ref 234) [.str text tt, .ref e]) Q E s := by
  refine wpAny_call ?_
  k_dflt (refine' code_defC (binds := [(Str.ofString "text", .str text tt), (Str.ofString "ends", .ref e)]) ?k1 ?k2 ?k3 ?k4 ?k5 ?kA ?kF ?kK ?k6 ?k7 ?k8 ?k9 ?kB ?kD ?_ ?c2 ?c3 ?c4; (case kA => exact rfl); (case kF => exact rfl); (case kK => assumption); (case k1 => k_asm); (case k2 => k_asm); (case k3 => k_asm); (case k4 => k_asm); (case k5 => k_asm); (case k6 => k_is); (case k7 => k_is); (case k8 => ktr_room); (case k9 => exact BindsTo.of_eq rfl); (case kB => exact rfl); (case kD => decide +kernel); (case c2 => exact rfl); (case c3 => exact rfl); (case c4 => exact rfl); k_whole; intro g' L' h' tk' cells' FG' F' N' Y' B' X' T' l1; (try k_lt l1); k_cells Y'; (try simp only [List.cons_append, List.nil_append] at N'); (try dsimp only); (try k_lift B'); (try k_fold))
  replace F' : Fr g' L' h' (fun y => if y = Str.ofString "text" then some (.str text tt) else none) := F'
  rename_i oc dc
  replace dc : oc.data = .cell (some (.ref e)) := dc
  repeat (first | with_reducible ((with_reducible show wpAny _ _ (call (Value.type "enumerate") _) _ _ _); ((k_here; k_dflt (first | refine' src_enum_str ?gF ?gN ?gh ?gA ?gS ?gk ?ga ?gb ?gab ?gkeep ?gOut ?gel ?gfin | refine' src_enum_list ?gF ?gN ?gh ?gl ?gS ?gk ?ga ?gb ?gab ?gkeep ?gOut ?gel ?gfin)))) | with_reducible ((with_reducible show wpAny _ _ (eval (PySem.Expr.ListComp _ _ _ _) _) _ _ _); ((k_here; k_dflt (refine gcomp (by k_asm) (by with_unfolding_all rfl) (by decide) (by rfl) (by decide) ?_)))) | walk1)
  case gF => k_asm
  case gN => k_asm
  case gh => rfl
  case gA => exact ha
  case gS => rw [sizeLine_eq]; lia
  case gk => rfl
  case ga => rfl
  case gb => rfl
  case gab => decide
  case gkeep => exact fun _ => true
  case gOut => exact fun (i : Nat) v => ∃ t, v = .str ((if (i : Int) ∈ ll.map Prod.fst then Str.ofString "\n" else Str.ofString "") ++ (⟨#[text.cps.getD i 0]⟩ : Str)) t
  case gel =>
    refine Elts.toC ?_
    rintro C i s' m₂ E' ⟨h₂, tk₂, rfl⟩ ⟨c, t1, t2, hc, h1, h2⟩ Fc Nc
    refine ⟨wpAny_pure ⟨rfl, keeps_refl _⟩, fun _ => ?_⟩
    have hc' : text.cps.getD i 0 = c := by rw [Array.getD_eq_getD_getElem?, hc]; rfl
    repeat (first | with_reducible ((with_reducible show wpAny _ _ (compareOp _ _ _) _ _ _); ((k_here; k_dflt (first | (refine in_led (by k_asm) (by k_mem) ?_) | (refine notin_led (by k_asm) (by k_mem) ?_))))) | with_reducible ((with_reducible show wpAny _ _ (eval (PySem.Expr.Name _ _) _) _ _ _); ((k_here; (with_reducible show wpAny _ _ (eval _ (compEnvC _ _ _ _)) _ _ _); k_dflt (first | (refine' ldVarK Fc.ns ?cv ?_; (case cv => assumption); k_whole) | (refine' ldCellK ?cv ⟨_, (Nc.get ?cm), ?cd⟩ ?_; (case cv => rfl); (case cm => k_mem); (case cd => assumption); k_whole))))) | walk1)
    all_goals (repeat (first | with_reducible ((with_reducible show wpAny _ _ (eval (PySem.Expr.Name _ _) _) _ _ _); ((k_here; (with_reducible show wpAny _ _ (eval _ (compEnvC _ _ _ _)) _ _ _); k_dflt (first | (refine' ldVarK Fc.ns ?cv ?_; (case cv => assumption); k_whole) | (refine' ldCellK ?cv ⟨_, (Nc.get ?cm), ?cd⟩ ?_; (case cv => rfl); (case cm => k_mem); (case cd => assumption); k_whole))))) | walk1))
    · refine EltEnd.mk ?_ (keeps_toks _ _)
      exact ⟨_, by rw [hc', if_pos (by simp_all)]⟩
    · refine EltEnd.mk ?_ (keeps_toks _ _)
      exact ⟨_, by rw [hc', if_neg (by simp_all)]⟩
  case gfin =>
    intro h'' D h₃ tk₃ ys F₃ N₃ hD hO hl
    obtain ⟨l2, rfl, hl2⟩ := paired_strs hO
    rw [lst_eq] at N₃
    have hl2' : l2.map Prod.fst = toldParts text (ll.map Prod.fst) := by rw [hl2, List.filter_eq_self.mpr (fun _ _ => rfl)]; rfl
    repeat walk1
    k_dflt (refine' SC.join (News.isList (by k_asm) (by k_mem)) hl2' ?hj ?_; (case hj => exact toldParts_ok _ _ hsz); intro t' k')
    repeat walk1
    (with_reducible rename Fr h₀ L _ m => F₈)
    (with_reducible rename News h₀ L _ _ => N₈)
    exact hret _ _ _ F₈ (news_sub N₈ fun q hq => .tail _ (.tail _ hq))
end
end Mine
end
section
open PySem PySem.W PySem.Spec PySem.Calls PyProof.Rows Builtin Builtin.ObjectAttr
namespace Mine
section
variable {prog : Program} {w : World} {A : Around} {E : Value → Shared → Prop} {s : Shared} {env : Env} {h₀ : Heap} {m : Str → Option Value} {news0 news : List (Addr × Obj)}
theorem for_zip {l1 l2 : Addr} {vs ws : List Value} {n1 n2 : Nat} {xi xc : Str} {body : List Stmt} {Q : Flow → Shared → Prop} (F : Fr h₀ env.locals s.heap m) (N : News h₀ env.locals s.heap news0) (hh : A.handled = none)
    (hl1 : (l1, W.listOf vs.toArray n1) ∈ news0) (hl2 : (l2, W.listOf ws.toArray n2) ∈ news0) (hsub : ∀ p ∈ news, p ∈ news0) (ho1 : ∀ p ∈ news, @Ne Nat p.1 l1) (ho2 : ∀ p ∈ news, @Ne Nat p.1 l2)
    (J : Nat → (Str → Option Value) → List (Addr × Obj) → Prop) (h0 : J 0 m news)
    (step : ∀ i v0 v1 m₁ news₁ s₁ own, (∃ h tk, s₁ = { s with heap := h, toks := tk }) → vs[i]? = some v0 → ws[i]? = some v1 → J i m₁ news₁ → (∀ p ∈ own, ∀ q ∈ news₁, @Ne Nat p.1 q.1) → news₁.map (·.1) = news.map (·.1) →
      Fr h₀ env.locals s₁.heap (fun y => if y = xc then some v1 else if y = xi then some v0 else m₁ y) → News h₀ env.locals s₁.heap (news₁ ++ own) →
      wpAny (model prog w) A (execs body env) (LoopStep3 h₀ env.locals own news₁ (J (i + 1)) s₁ (fun v s' => Q (.ret v) s') fun s' => Q .next s') E s₁)
    (hQ : ∀ h' tk m' news', Fr h₀ env.locals h' m' → News h₀ env.locals h' news' → J (min vs.length ws.length) m' news' → Q .next { s with heap := h', toks := tk }) :
    wpAny (model prog w) A (call (.type "zip") [.ref l1, .ref l2]) (fun xv s₁ => wpAny (model prog w) A (pyIter xv) (fun it s₂ => PairAt3 prog w A h₀ env xi xc body Q E it s₂) E s₁) E s := by
  have hls1 : s.heap.IsList l1 vs.toArray := ⟨_, (N _ hl1).1, rfl, n1, rfl⟩
  have hls2 : s.heap.IsList l2 ws.toArray := ⟨_, (N _ hl2).1, rfl, n2, rfl⟩
  refine call_zip_2 hls1 hls2 fun h' g1 g2 g3 g4 g5 hz hk => ?_
  refine wpAny_pyIter_zip g1 ?_
  have hL : env.locals < s.heap.objs.size := F.ns.lt
  have a1 : l1 < s.heap.objs.size := Heap.lt_size (N _ hl1).1
  have a2 : l2 < s.heap.objs.size := Heap.lt_size (N _ hl2).1
  have fr := fresh_h0 F
  generalize hS : s.heap.objs.size = S at *
  have W := WalksT.zip2 (prog := prog) (w := w) hh (S + 4) (S + 2) (S + 3) S (S + 1) l1 l2 (zipApart_new a1 a2) vs.toArray ws.toArray
  have hnews : ∀ p ∈ news, @LT.lt Nat _ p.1 S := fun p hp => hS ▸ Heap.lt_size (N p (hsub p hp)).1
  refine ⟨S + 4, _, [S + 4, S + 3, S, S + 1], _, _, _, _, (fun i v0 v1 => vs[i]? = some v0 ∧ ws[i]? = some v1), m, news, J, rfl, W, ?_, ?_, ?_, ?_, ⟨g1, g2, ⟨_, _, g3⟩, g4, g5, hls1.at fun o e => hk _ o e, hls2.at fun o e => hk _ o e⟩, F.keeps hk, fun p hp => ⟨hk _ _ (N p (hsub p hp)).1, (N p (hsub p hp)).2⟩, h0, ?_, ?_⟩
  · rintro i vals ⟨x, y, hx, hy, rfl⟩
    exact ⟨x, y, rfl, by simpa using hx, by simpa using hy⟩
  · have b1 : env.locals ≠ l1 := Ne.symm (N _ hl1).2.1
    have b2 : env.locals ≠ l2 := Ne.symm (N _ hl2).2.1
    have hL' : @LT.lt Nat _ env.locals S := hL
    simp only [List.mem_cons, List.not_mem_nil, or_false]
    rintro (h | h | h | h | h | h | h)
    iterate 5 (have h' : @Eq Nat env.locals _ := h; lia)
    · exact b1 h
    · exact b2 h
  · simp only [List.mem_cons, List.not_mem_nil, or_false]
    rintro b (rfl | rfl | rfl | rfl) <;> (refine fr _ ?_; first | exact Nat.le_add_right _ _ | exact Nat.le_refl _)
  · intro p hp
    have := hnews p hp
    simp only [List.mem_cons, List.not_mem_nil, or_false]
    rintro (h | h | h | h) <;> (have h' : @Eq Nat p.1 _ := h; lia)
  · rintro i v0 v1 m₁ news₁ s₁ own ⟨hh₁, tk₁, rfl⟩ hi ⟨hx, hy⟩ hJ hmap hsub' F₁ N₁
    refine step i v0 v1 m₁ news₁ _ own ⟨_, _, rfl⟩ hx hy hJ (fun p hp q hq => ?_) hmap F₁ (news_sub N₁ fun p hp => by
      rcases List.mem_append.mp hp with h | h
      · exact List.mem_append_right _ h
      · exact List.mem_append_left _ h)
    have hq' : q.1 ∈ news.map (·.1) := hmap ▸ List.mem_map.mpr ⟨q, hq, rfl⟩
    obtain ⟨r, hr, hre⟩ := List.mem_map.mp hq'
    have r1 := hnews r hr
    have r2 := ho1 r hr
    have r3 := ho2 r hr
    have r4 := hsub' p hp
    simp only [List.mem_cons, List.not_mem_nil, or_false] at r4
    intro e
    have e' : @Eq Nat p.1 r.1 := e.trans hre.symm
    rcases r4 with h | h | h | h | h | h | h
    iterate 5 (have h' : @Eq Nat p.1 _ := h; lia)
    · exact r2 (e'.symm.trans h)
    · exact r3 (e'.symm.trans h)
  · intro h₂ tk m' news' F' N' _ hJ
    exact hQ h₂ tk m' news' F' N' (by simpa using hJ)
end
end Mine
namespace Mine
section
variable {prog : Program} {w : World} {A : Around} {E : Value → Shared → Prop} {s : Shared} {h₀ : Heap} {L q : Addr} {m : Str → Option Value} {rest : List (Addr × Obj)}
theorem ints_append {es : List Value} {ns : List Int} {n : Nat} {k : Int} {t : Tok} {Q : Value → Shared → Prop} (F : Fr h₀ L s.heap m) (N : News h₀ L s.heap ((q, W.listOf es.toArray n) :: rest)) (hoff : ∀ p ∈ rest, @Ne Nat p.1 q) (hI : IntsAre es ns) (hl : ns.length ≤ 2000)
    (h : ∀ h', Fr h₀ L h' m → News h₀ L h' ((q, W.listOf (es ++ [Value.int k t]).toArray (n + 1)) :: rest) → IntsAre (es ++ [Value.int k t]) (ns ++ [k]) → Q .none { s with heap := h' }) : wpAny (model prog w) A (call (.builtin "list.append") [.ref q, .int k t]) Q E s :=
  append_K F N (by rw [List.push_toArray]; exact Upd.head hoff) (fun h' F' N' => h h' F' N' (hI.append (.cons k t .nil))) (by rw [List.size_toArray, hI.length, sizeLine_eq]; lia)
theorem bools_append {es : List Value} {bs : List Bool} {n : Nat} {b : Bool} {Q : Value → Shared → Prop} (F : Fr h₀ L s.heap m) (N : News h₀ L s.heap ((q, W.listOf es.toArray n) :: rest)) (hoff : ∀ p ∈ rest, @Ne Nat p.1 q) (hI : LSm.BoolsAre es bs) (hl : bs.length ≤ 2000)
    (h : ∀ h', Fr h₀ L h' m → News h₀ L h' ((q, W.listOf (es ++ [Value.bool b]).toArray (n + 1)) :: rest) → LSm.BoolsAre (es ++ [Value.bool b]) (bs ++ [b]) → Q .none { s with heap := h' }) : wpAny (model prog w) A (call (.builtin "list.append") [.ref q, .bool b]) Q E s :=
  append_K F N (by rw [List.push_toArray]; exact Upd.head hoff) (fun h' F' N' => h h' F' N' (kbo_app hI (.cons b .nil))) (by rw [List.size_toArray, hI.length, sizeLine_eq]; lia)
end
theorem endsFrom_snoc (width : Int) (ps : List (Int × Int)) (p : Int × Int) : endsFrom width (ps ++ [p]) = endsStep width (endsFrom width ps) p := by
  unfold endsFrom
  rw [List.foldl_append]
  rfl
theorem intsAre_at : ∀ {vs : List Value} {ns : List Int} {i : Nat} {v : Value}, IntsAre vs ns → vs[i]? = some v → ∃ k t, v = Value.int k t ∧ ns[i]? = some k
  | _, _, 0, _, .cons n t r, h => ⟨n, t, (Option.some.inj h).symm, rfl⟩
  | _, _, i + 1, _, .cons n t r, h => by
    have h2 := intsAre_at (i := i) r (by simpa using h)
    simpa using h2
end Mine
namespace Mine
theorem allLt_mem {d : Nat} : ∀ {l : List (Addr × Obj)}, AllLt d l → ∀ p ∈ l, @LT.lt Nat _ p.1 d
  | [], _, _, h => nomatch h
  | _ :: _, x, p, h => by
    rcases List.mem_cons.mp h with rfl | h
    · exact x.1
    · exact allLt_mem x.2 p h
end Mine
namespace Mine
theorem endsFrom_next {width b : Int} {spots ns : List Int} {i : Nat} {k0 k1 : Int} (h : (b, ns) = endsFrom width ((spots.zip (spots.drop 1)).take i)) (h0 : spots[i]? = some k0) (h1 : (spots.drop 1)[i]? = some k1) :
    endsFrom width ((spots.zip (spots.drop 1)).take (i + 1)) = endsStep width (b, ns) (k0, k1) := by
  have e : (spots.zip (spots.drop 1))[i]? = some (k0, k1) := by rw [List.getElem?_zip_eq_some]; exact ⟨h0, h1⟩
  rw [List.take_add_one, e]
  show endsFrom width (_ ++ [(k0, k1)]) = _
  rw [endsFrom_snoc, ← h]
theorem endsFrom_done {width : Int} {spots : List Int} {n : Nat} (h : n = min spots.length (spots.drop 1).length) : endsFrom width ((spots.zip (spots.drop 1)).take n) = endsFrom width (spots.zip (spots.drop 1)) := by
  rw [List.take_of_length_le (by rw [List.length_zip, h]; exact Nat.le_refl _)]
end Mine
end
example : True ∧ True := by first | (w_top off; walk1; done) | exact ⟨trivial, trivial⟩
section
open PySem PySem.W PySem.Spec PySem.Calls PyProof.Rows Builtin Builtin.ObjectAttr
open PyProof.Rows.LCg (lst lst_snoc)
example : (fun (_ : OpenLaw) (_ : Params → Frag) => True) PySem.Challenge.rw_tc0044_01 Mine.hd.heap_39 := by k_fill; trivial
namespace Mine
inductive EndsJ (q : Addr) (rest : List (Addr × Obj)) (width : Int) (tw : Tok) (ps : List (Int × Int)) (i : Nat) (m₁ : Str → Option Value) (news₁ : List (Addr × Obj)) : Prop
  | mk b tb es n ns (h1 : m₁ (Str.ofString "begin") = some (.int b tb)) (h2 : m₁ (Str.ofString "ends") = some (.ref q)) (h3 : m₁ (Str.ofString "width") = some (.int width tw)) (h4 : news₁ = (q, W.listOf es.toArray n) :: rest) (h5 : IntsAre es ns) (h6 : (b, ns) = endsFrom width (ps.take i)) (h7 : ns.length ≤ i) : EndsJ q rest width tw ps i m₁ news₁
section
variable {w : World} {pT : Program} {loose : List Str} {mean : ExcName → Option Value} {mg mb : Str → Option Value}
theorem ends_call {text : Str} {tt tw : Tok} {width : Int} {nw : List (Addr × Obj)} {dp un : Nat} {gd : Option (List Code)} {cn : Str} {cs : Scope} {a : Addr} {ccd : Value} {cl : List (Str × Addr)} {outer : List Env} {A₀ : Around} {base h₀ : Heap} {L : Addr} {m : Str → Option Value} {s : Shared} {Q E : Value → Shared → Prop}
    (B : Below A₀ base outer h₀) (F : Fr h₀ L s.heap m) (X : (Mine.hd.heap_39 w.params).In h₀) (T : Top pT loose mean mg mb h₀) (hk : cs.kind = .function) (hd1 : dp + 12 < recursionLimit) (N : News h₀ L s.heap nw) (ha : text.cps.all (· < 128) = true) (hsz : text.length ≤ 1000)
    (hret : ∀ q es n h' tk', Fr h₀ L h' m → News h₀ L h' ((q, W.listOf es.toArray n) :: nw) → IntsAre es (endsOf text width) → (∀ p ∈ nw, @LT.lt Nat _ p.1 q) → Q (.ref q) ⟨h', s.gens, s.drawn, tk', s.os⟩) :
    wpAny (model PySem.Challenge.pw_tc0044_01 w) (ktrTop dp un gd cn cs L a ccd cl outer) (call (.ref 229) [.str text tt, .int width tw]) Q E s := by
  refine wpAny_call ?_
  k_dflt (refine' code_def (binds := [(Str.ofString "text", .str text tt), (Str.ofString "width", .int width tw)]) ?k1 ?k2 ?k3 ?k4 ?k5 ?kA ?kF ?kK ?k6 ?k7 ?k8 ?k9 ?kB ?_ ?c2 ?c3 ?c4 ?c5; (case kA => exact rfl); (case kF => exact rfl); (case kK => assumption); (case k1 => k_asm); (case k2 => k_asm); (case k3 => k_asm); (case k4 => k_asm); (case k5 => k_asm); (case k6 => k_is); (case k7 => k_is); (case k8 => ktr_room); (case k9 => exact BindsTo.of_eq rfl); (case c5 => decide); (case kB => exact locs rfl); (case c2 => exact rfl); (case c3 => exact rfl); (case c4 => exact rfl); k_whole; intro g' L' h' FG' F' N' B' X' T'; (try dsimp only); (try k_lift B'); (try k_fold); (try k_sweep))
  repeat (first | with_reducible ((with_reducible show wpAny _ _ (call (Value.type "enumerate") _) _ _ _); ((k_here; k_dflt (first | refine' src_enum_str ?gF ?gN ?gh ?gA ?gS ?gk ?ga ?gb ?gab ?gkeep ?gOut ?gel ?gfin | refine' src_enum_list ?gF ?gN ?gh ?gl ?gS ?gk ?ga ?gb ?gab ?gkeep ?gOut ?gel ?gfin)))) | with_reducible ((with_reducible show wpAny _ _ (eval (PySem.Expr.ListComp _ _ _ _) _) _ _ _); ((k_here; k_dflt (refine gcomp (by k_asm) (by with_unfolding_all rfl) (by decide) (by rfl) (by decide) ?_)))) | walk1)
  case gF => k_asm
  case gN => k_asm
  case gh => rfl
  case gA => exact ha
  case gS => exact Nat.le_trans hsz (by rw [sizeLine_eq]; decide)
  case gk => rfl
  case ga => rfl
  case gb => rfl
  case gab => decide
  case gkeep => exact fun i => text.cps.getD i 0 == 32
  case gOut => exact fun (i : Nat) v => ∃ t, v = .int ((i : Nat) : Int) t
  case gel =>
    refine Elts.toC ?_
    rintro C i s' m₂ E' ⟨h₂, tk₂, rfl⟩ ⟨c, t1, t2, hc, h1, h2⟩ Fc Nc
    have hc' : text.cps.getD i 0 = c := by rw [Array.getD_eq_getD_getElem?, hc]; rfl
    refine ⟨wpAny_tests_one ?_, fun _ => ?_⟩
    · repeat (first | with_reducible ((with_reducible show wpAny _ _ (eval (PySem.Expr.Name _ _) _) _ _ _); ((k_here; (with_reducible show wpAny _ _ (eval _ (compEnvC _ _ _ _)) _ _ _); k_dflt (first | (refine' ldVarK Fc.ns ?cv ?_; (case cv => assumption); k_whole) | (refine' ldCellK ?cv ⟨_, (Nc.get ?cm), ?cd⟩ ?_; (case cv => rfl); (case cm => k_mem); (case cd => assumption); k_whole))))) | walk1)
      refine EltEnd.mk ?_ (keeps_toks _ _)
      show _ = (text.cps.getD i 0 == 32)
      rw [hc', sign_eq c]
    · repeat (first | with_reducible ((with_reducible show wpAny _ _ (eval (PySem.Expr.Name _ _) _) _ _ _); ((k_here; (with_reducible show wpAny _ _ (eval _ (compEnvC _ _ _ _)) _ _ _); k_dflt (first | (refine' ldVarK Fc.ns ?cv ?_; (case cv => assumption); k_whole) | (refine' ldCellK ?cv ⟨_, (Nc.get ?cm), ?cd⟩ ?_; (case cv => rfl); (case cm => k_mem); (case cd => assumption); k_whole))))) | walk1)
      refine EltEnd.mk ?_ (keeps_toks _ _)
      exact ⟨_, rfl⟩
  case gfin =>
    intro h'' D h₃ tk₃ ys F₃ N₃ hD hO hl
    have hI : IntsAre ys (blanksOf text) := paired_intsAre hO
    have hIl : (blanksOf text).length ≤ 1000 := by rw [← hI.length]; exact Nat.le_trans hl hsz
    clear hO hl
    rw [lst_eq] at N₃
    repeat (first | with_reducible ((with_reducible show wpAny _ _ (call (Value.type "zip") _) _ _ _); ((k_here; rename_i tk1 l1a h8 q4 Ds ws1 h7 hIs q3 h6 tk0 lz h5 q2 Dt h4 q1 h3 h2 h1 Dr ws2 hh FF NN hIr hC hLn q0; k_dflt (refine' for_zip (news := (lz, W.listOf (([] : List Value).toArray) 0) :: nw) FF NN rfl ?z1 ?z2 ?zs ?zo1 ?zo2 (EndsJ lz nw width tw ((spotsOf text).zip ((spotsOf text).drop 1))) ?z0 ?zst ?zQ)))) | with_reducible ((with_reducible show wpAny _ _ (exec (PySem.Stmt.For (PySem.Expr.Tuple _ _ _) _ _ _ _) _) _ _ _); ((k_here; k_dflt (refine For_pair3 (h₀ := g') rfl rfl rfl rfl ?_ (by intro _; rfl))))) | walk1)
    case z1 => k_mem
    case z2 => k_mem
    case zs =>
      intro p hp
      rcases List.mem_cons.mp hp with rfl | h
      · exact .tail _ (.tail _ (.head _))
      · exact .tail _ (.tail _ (.tail _ (.tail _ (.tail _ (.tail _ h)))))
    case zo1 =>
      intro p hp
      rcases List.mem_cons.mp hp with rfl | h
      · exact Nat.ne_of_gt q2.1
      · exact Nat.ne_of_lt (allLt_mem q3.2.2 p h)
    case zo2 =>
      intro p hp
      rcases List.mem_cons.mp hp with rfl | h
      · exact Nat.ne_of_lt q0.2.1
      · exact Nat.ne_of_lt (allLt_mem q0.2.2.2.2.2 p h)
    case z0 => exact ⟨0, tk0, [], 0, [], rfl, rfl, rfl, rfl, .nil, rfl, Nat.le_refl _⟩
    case zst =>
      rintro i v0 v1 m₁ news₁ s₁ own ⟨H, tk, rfl⟩ hv0 hv1 ⟨b, tb, es, n, ns, mb, me, mw, rfl, hIe, hfold, hnl⟩ hoff hmap F₅ N₅
      obtain ⟨k0, t0, rfl, hk0⟩ := intsAre_at hIs hv0
      obtain ⟨k1, t1, rfl, hk1⟩ := intsAre_at hIr hv1
      clear hmap FF NN
      have hil : i < 1001 := by
        have e1 := (List.getElem?_eq_some_iff.mp hk0).1
        rw [List.length_append, List.length_singleton] at e1
        lia
      have hnl2 : ns.length ≤ 2000 := by lia
      have hoq : ∀ p ∈ nw ++ own, @Ne Nat p.1 lz := by
        intro p hp
        rcases List.mem_append.mp hp with h | h
        · exact Nat.ne_of_lt (allLt_mem q2.2.2.2 p h)
        · exact hoff p h _ (.head _)
      rw [List.cons_append] at N₅
      repeat (first | with_reducible ((with_reducible show wpAny _ _ (call (Value.builtin "list.append") _) _ _ _); ((k_here; k_dflt (refine' ints_append ?k1 ?k2 ?k3 ?k4 ?k5 ?_; (case k1 => k_asm); (case k2 => k_asm); (case k3 => assumption); (case k4 => assumption); (case k5 => assumption); k_whole; intro h₁ F₁ N₁ hI₁)))) | with_reducible ((with_reducible show wpAny _ _ (eval (PySem.Expr.Name _ _) _) _ _ _); ((k_here; (with_reducible show wpAny _ _ (eval _ (envOf _ _ _ _ _)) _ _ _); k_dflt (refine' ld ?k1 ?k2 ?_; (case k1 => k_asm); (case k2 => assumption); k_whole)))) | walk1)
      all_goals (repeat walk1)
      · (with_reducible rename Fr g' _ _ _ => F₈)
        (with_reducible rename News g' _ _ _ => N₈)
        have hc : width < k1 - b := by simp_all
        have e := endsFrom_next (width := width) hfold hk0 hk1
        unfold endsStep at e
        rw [if_pos hc] at e
        exact LoopStep2.intro (news₂ := (lz, W.listOf (es ++ [Value.int k0 t0]).toArray (n + 1)) :: nw) F₈ (news_sub N₈ (fun p hp => by
          rcases List.mem_append.mp hp with h | h
          · exact .tail _ (List.mem_append_right _ h)
          · rcases List.mem_cons.mp h with rfl | h
            · exact .head _
            · exact .tail _ (List.mem_append_left _ h))) rfl ⟨k0, t0, _, n + 1, ns ++ [k0], rfl, me, mw, rfl, hI₁, e.symm, by rw [List.length_append, List.length_singleton]; lia⟩
      · have hc : ¬ width < k1 - b := by simp_all
        have e := endsFrom_next (width := width) hfold hk0 hk1
        unfold endsStep at e
        rw [if_neg hc] at e
        exact LoopStep2.intro (news₂ := (lz, W.listOf es.toArray n) :: nw) F₅ (news_sub N₅ (fun p hp => by
          rcases List.mem_append.mp hp with h | h
          · exact .tail _ (List.mem_append_right _ h)
          · rcases List.mem_cons.mp h with rfl | h
            · exact .head _
            · exact .tail _ (List.mem_append_left _ h))) rfl ⟨b, tb, es, n, ns, mb, me, mw, rfl, hIe, e.symm, by lia⟩
    case zQ =>
      rintro h'' tk'' m' news' F₅ N₅ ⟨b, tb, es, n, ns, mb, me, mw, rfl, hIe, hfold, hnl⟩
      clear FF NN
      repeat (first | with_reducible ((with_reducible show wpAny _ _ (eval (PySem.Expr.Name _ _) _) _ _ _); ((k_here; (with_reducible show wpAny _ _ (eval _ (envOf _ _ _ _ _)) _ _ _); k_dflt (refine' ld ?k1 ?k2 ?_; (case k1 => k_asm); (case k2 => assumption); k_whole)))) | walk1)
      (with_reducible rename Fr h₀ L _ m => F₈)
      (with_reducible rename News h₀ L _ _ => N₈)
      have e := endsFrom_done (width := width) (spots := spotsOf text) (n := min ws1.length ws2.length) (by rw [hIs.length, hIr.length]; rfl)
      rw [e] at hfold
      have e2 : ns = endsOf text width := by unfold endsOf; rw [← hfold]
      exact hret lz es n h'' tk'' F₈ N₈ (e2 ▸ hIe) fun p hp => allLt_mem q2.2.2.2 p hp
end
end Mine
end
section
open PySem PySem.W PySem.Spec PySem.Calls PyProof.Rows Builtin Builtin.ObjectAttr
namespace Mine
section
variable {prog : Program} {w : World} {A : Around} {E : Value → Shared → Prop} {s : Shared} {env : Env} {h₀ : Heap} {m : Str → Option Value} {news0 news : List (Addr × Obj)}
theorem for_str {x : Str} {tx : Tok} {xv : Str} {body : List Stmt} {Q : Flow → Shared → Prop} (F : Fr h₀ env.locals s.heap m) (N : News h₀ env.locals s.heap news0) (hh : A.handled = none) (ha : x.cps.all (· < 128) = true)
    (hsub : ∀ p ∈ news, p ∈ news0) (J : Nat → (Str → Option Value) → List (Addr × Obj) → Prop) (h0 : J 0 m news)
    (step : ∀ i c t m₁ news₁ s₁ own, (∃ h tk, s₁ = { s with heap := h, toks := tk }) → x.cps[i]? = some c → J i m₁ news₁ → (∀ p ∈ own, ∀ q ∈ news₁, @Ne Nat p.1 q.1) → news₁.map (·.1) = news.map (·.1) →
      Fr h₀ env.locals s₁.heap (fun y => if y = xv then some (.str ⟨#[c]⟩ t) else m₁ y) → News h₀ env.locals s₁.heap (news₁ ++ own) →
      wpAny (model prog w) A (execs body env) (LoopStep3 h₀ env.locals own news₁ (J (i + 1)) s₁ (fun v s' => Q (.ret v) s') fun s' => Q .next s') E s₁)
    (hQ : ∀ h' tk m' news', Fr h₀ env.locals h' m' → News h₀ env.locals h' news' → J x.cps.size m' news' → Q .next { s with heap := h', toks := tk }) :
    wpAny (model prog w) A (pyIter (.str x tx)) (fun it s₂ => LoopAt3 prog w A h₀ env xv body Q E it s₂) E s := by
  refine wpAny_pyIter_ascii ha ?_
  have hL : env.locals < s.heap.objs.size := F.ns.lt
  have up : ∀ b o, s.heap.get? b = some o → (s.heap.push { cls := .type "str_ascii_iterator", data := .fields #[.str x tx, .int 0 0] }).get? b = some o := fun b o e => Heap.get?_push_of_some _ e
  have hnews : ∀ p ∈ news, @LT.lt Nat _ p.1 s.heap.objs.size := fun p hp => Heap.lt_size (N p (hsub p hp)).1
  refine ⟨s.heap.objs.size, _, _, _, _, _, m, news, J, rfl, Walks.strAscii hh s.heap.objs.size x tx, ?_, ?_, ?_, ⟨_, Heap.get?_push_size _ rfl, rfl, rfl⟩, F.keeps up, fun p hp => ⟨up _ _ (N p (hsub p hp)).1, (N p (hsub p hp)).2⟩, h0, ?_, ?_⟩
  · simp only [List.mem_cons, List.not_mem_nil, or_false]
    exact Nat.ne_of_lt hL
  · simp only [List.mem_cons, List.not_mem_nil, or_false]
    rintro b rfl
    exact fresh_h0 F _ (Nat.le_refl _)
  · intro p hp
    simp only [List.mem_cons, List.not_mem_nil, or_false]
    exact Nat.ne_of_lt (hnews p hp)
  · rintro i v m₁ news₁ s₁ own ⟨hh₁, tk₁, rfl⟩ hi ⟨c, t, hc, rfl⟩ hJ hmap hsub' _ F₁ N₁
    refine step i c t m₁ news₁ _ own ⟨_, _, rfl⟩ hc hJ (fun p hp q hq => ?_) hmap F₁ (news_sub N₁ fun p hp => by
      rcases List.mem_append.mp hp with h | h
      · exact List.mem_append_right _ h
      · exact List.mem_append_left _ h)
    have hq' : q.1 ∈ news.map (·.1) := hmap ▸ List.mem_map.mpr ⟨q, hq, rfl⟩
    obtain ⟨r, hr, hre⟩ := List.mem_map.mp hq'
    have r1 := hnews r hr
    have r4 := hsub' p hp
    simp only [List.mem_cons, List.not_mem_nil, or_false] at r4
    intro e
    have e' : @Eq Nat p.1 r.1 := e.trans hre.symm
    have r5 : @Eq Nat p.1 s.heap.objs.size := r4
    lia
  · intro h₂ tk m' news' F' N' _ hJ
    exact hQ h₂ tk m' news' F' N' hJ
end
noncomputable def hidStep (closed : Int) (st : Int × List Bool) (c : Nat) : Int × List Bool := (if c = 34 then st.1 + 1 else st.1, st.2 ++ [decide (st.1 < closed) && (c == 34 || st.1.fmod 2 == 1)])
noncomputable def hidFrom (closed : Int) (cs : List Nat) : Int × List Bool := cs.foldl (hidStep closed) (0, [])
noncomputable def closedOf (text : Str) : Int := (Txt.count text (Str.ofString "\"")).fdiv 2 * 2
noncomputable def hiddenOf (text : Str) : List Bool := (hidFrom (closedOf text) text.cps.toList).2
theorem hidFrom_next {closed : Int} {x : Str} {i c : Nat} (h : x.cps[i]? = some c) : hidFrom closed (x.cps.toList.take (i + 1)) = hidStep closed (hidFrom closed (x.cps.toList.take i)) c := by
  have e : x.cps.toList[i]? = some c := by rw [Array.getElem?_toList]; exact h
  rw [List.take_add_one, e]
  unfold hidFrom
  show List.foldl _ _ (_ ++ [c]) = _
  rw [List.foldl_append]
  rfl
end Mine
end
example : True ∧ True := by first | (w_top off; walk1; done) | exact ⟨trivial, trivial⟩
section
open PySem PySem.W PySem.Spec PySem.Calls PyProof.Rows Builtin Builtin.ObjectAttr
open PyProof.Rows.LCg (lst lst_snoc)
example : (fun (_ : OpenLaw) (_ : Params → Frag) => True) PySem.Challenge.rw_tc0044_01 Mine.hd.heap_39 := by k_fill; trivial
namespace Mine
inductive HidJ (q : Addr) (rest : List (Addr × Obj)) (closed : Int) (tc : Tok) (cs : List Nat) (i : Nat) (m₁ : Str → Option Value) (news₁ : List (Addr × Obj)) : Prop
  | mk b tb es n bs (h1 : m₁ (Str.ofString "marks") = some (.int b tb)) (h2 : m₁ (Str.ofString "hidden") = some (.ref q)) (h3 : m₁ (Str.ofString "closed") = some (.int closed tc)) (h4 : news₁ = (q, W.listOf es.toArray n) :: rest) (h5 : LSm.BoolsAre es bs) (h6 : (b, bs) = hidFrom closed (cs.take i)) (h7 : bs.length ≤ i) : HidJ q rest closed tc cs i m₁ news₁
section
variable {w : World} {pT : Program} {loose : List Str} {mean : ExcName → Option Value} {mg mb : Str → Option Value}
theorem hidden_call {text : Str} {tt : Tok} {nw : List (Addr × Obj)} {dp un : Nat} {gd : Option (List Code)} {cn : Str} {cs : Scope} {a : Addr} {ccd : Value} {cl : List (Str × Addr)} {outer : List Env} {A₀ : Around} {base h₀ : Heap} {L : Addr} {m : Str → Option Value} {s : Shared} {Q E : Value → Shared → Prop}
    (B : Below A₀ base outer h₀) (F : Fr h₀ L s.heap m) (X : (Mine.hd.heap_39 w.params).In h₀) (T : Top pT loose mean mg mb h₀) (hk : cs.kind = .function) (hd1 : dp + 12 < recursionLimit) (N : News h₀ L s.heap nw) (ha : text.cps.all (· < 128) = true) (hsz : text.length ≤ 1000)
    (hret : ∀ q es n h' tk', Fr h₀ L h' m → News h₀ L h' ((q, W.listOf es.toArray n) :: nw) → LSm.BoolsAre es (hiddenOf text) → (∀ p ∈ nw, @LT.lt Nat _ p.1 q) → Q (.ref q) ⟨h', s.gens, s.drawn, tk', s.os⟩) :
    wpAny (model PySem.Challenge.pw_tc0044_01 w) (ktrTop dp un gd cn cs L a ccd cl outer) (call (.ref 224) [.str text tt]) Q E s := by
  refine wpAny_call ?_
  k_dflt (refine' code_def (binds := [(Str.ofString "text", .str text tt)]) ?k1 ?k2 ?k3 ?k4 ?k5 ?kA ?kF ?kK ?k6 ?k7 ?k8 ?k9 ?kB ?_ ?c2 ?c3 ?c4 ?c5; (case kA => exact rfl); (case kF => exact rfl); (case kK => assumption); (case k1 => k_asm); (case k2 => k_asm); (case k3 => k_asm); (case k4 => k_asm); (case k5 => k_asm); (case k6 => k_is); (case k7 => k_is); (case k8 => ktr_room); (case k9 => exact BindsTo.of_eq rfl); (case c5 => decide); (case kB => exact locs rfl); (case c2 => exact rfl); (case c3 => exact rfl); (case c4 => exact rfl); k_whole; intro g' L' h' FG' F' N' B' X' T'; (try dsimp only); (try k_lift B'); (try k_fold); (try k_sweep))
  repeat (first | with_reducible ((with_reducible show wpAny _ _ (pyIter (Value.str _ _)) _ _ _); ((k_here; rename_i tk0 lz h5 q2 Dt h4 q1 h3 h2 h1 hh FF NN; k_dflt (refine' for_str (news := (lz, W.listOf (([] : List Value).toArray) 0) :: nw) FF NN rfl ha (by intro p hp; rcases List.mem_cons.mp hp with rfl | h; exact .tail _ (.head _); exact .tail _ (.tail _ h)) (HidJ lz nw (closedOf text) (tk0 + 1 + 1 + 1 + 1 + 1) text.cps.toList) ?z0 ?zst ?zQ)))) | with_reducible ((with_reducible show wpAny _ _ (exec (PySem.Stmt.For (PySem.Expr.Name _ _) _ _ _ _) _) _ _ _); ((k_here; k_dflt (refine For_inv3 g' rfl rfl ?_)))) | walk1)
  case z0 => exact ⟨0, _, [], 0, [], rfl, rfl, rfl, rfl, .nil, rfl, Nat.le_refl _⟩
  case zst =>
    rintro i c t m₁ news₁ s₁ own ⟨H, tk, rfl⟩ hc ⟨b, tb, es, n, bs, mb, me, mw, rfl, hIe, hfold, hnl⟩ hoff hmap F₅ N₅
    clear hmap FF NN
    have hil : i < 1000 := Nat.lt_of_lt_of_le (Array.getElem?_eq_some_iff.mp hc).1 hsz
    have hnl2 : bs.length ≤ 2000 := by lia
    have hoq : ∀ p ∈ nw ++ own, @Ne Nat p.1 lz := by
      intro p hp
      rcases List.mem_append.mp hp with h | h
      · exact Nat.ne_of_lt (q2 p h)
      · exact hoff p h _ (.head _)
    rw [List.cons_append] at N₅
    repeat (first | with_reducible ((with_reducible show wpAny _ _ (call (Value.builtin "list.append") _) _ _ _); ((k_here; k_dflt (refine' bools_append ?k1 ?k2 ?k3 ?k4 ?k5 ?_; (case k1 => k_asm); (case k2 => k_asm); (case k3 => assumption); (case k4 => assumption); (case k5 => assumption); k_whole; intro h₁ F₁ N₁ hI₁)))) | with_reducible ((with_reducible show wpAny _ _ (loadName _ _) _ _ _); ((k_here; (with_reducible rename Fr g' _ _ _ => kF); k_dflt (refine' wpAny_loadName_local rfl rfl kF.ns ?k1 ?_; (case k1 => assumption); k_whole)))) | with_reducible ((with_reducible show wpAny _ _ (eval (PySem.Expr.Name _ _) _) _ _ _); ((k_here; (with_reducible show wpAny _ _ (eval _ (envOf _ _ _ _ _)) _ _ _); k_dflt (refine' ld ?k1 ?k2 ?_; (case k1 => k_asm); (case k2 => assumption); k_whole)))) | walk1)
    all_goals (repeat (first | with_reducible ((with_reducible show wpAny _ _ (call (Value.builtin "list.append") _) _ _ _); ((k_here; k_dflt (refine' bools_append ?k1 ?k2 ?k3 ?k4 ?k5 ?_; (case k1 => k_asm); (case k2 => k_asm); (case k3 => assumption); (case k4 => assumption); (case k5 => assumption); k_whole; intro h₁ F₁ N₁ hI₁)))) | with_reducible ((with_reducible show wpAny _ _ (loadName _ _) _ _ _); ((k_here; (with_reducible rename Fr g' _ _ _ => kF); k_dflt (refine' wpAny_loadName_local rfl rfl kF.ns ?k1 ?_; (case k1 => assumption); k_whole)))) | with_reducible ((with_reducible show wpAny _ _ (eval (PySem.Expr.Name _ _) _) _ _ _); ((k_here; (with_reducible show wpAny _ _ (eval _ (envOf _ _ _ _ _)) _ _ _); k_dflt (refine' ld ?k1 ?k2 ?_; (case k1 => k_asm); (case k2 => assumption); k_whole)))) | walk1))
    all_goals (repeat walk1)
    · (with_reducible rename Fr g' _ _ _ => F₈)
      (with_reducible rename News g' _ _ _ => N₈)
      have hs : (c == 34) = true := by rw [← sign_eqQ]; assumption
      have hcl : b < closedOf text := by assumption
      have e := hidFrom_next (closed := closedOf text) hc
      rw [← hfold] at e
      have hb : (b + 1, bs ++ [Str.mk #[c] == Str.ofString "\""]) = hidFrom (closedOf text) (text.cps.toList.take (i + 1)) := by
        rw [e]
        unfold hidStep
        have hs' : c = 34 := by simpa using hs
        simp only [if_pos hs', hs, hcl, decide_true, decide_false, Bool.true_and, Bool.false_and, Bool.true_or, Bool.false_or, if_true, if_false, Bool.false_eq_true, reduceCtorEq, sign_eqQ]
      exact LoopStep2.intro (news₂ := (lz, W.listOf (es ++ [Value.bool (Str.mk #[c] == Str.ofString "\"")]).toArray (n + 1)) :: nw) F₈ (news_sub N₈ (fun p hp => by
        rcases List.mem_append.mp hp with h | h
        · exact .tail _ (List.mem_append_right _ h)
        · rcases List.mem_cons.mp h with rfl | h
          · exact .head _
          · exact .tail _ (List.mem_append_left _ h))) rfl ⟨b + 1, _, es ++ [Value.bool (Str.mk #[c] == Str.ofString "\"")], n + 1, bs ++ [Str.mk #[c] == Str.ofString "\""], rfl, me, mw, rfl, hI₁, hb, by rw [List.length_append, List.length_singleton]; lia⟩
    · (with_reducible rename Fr g' _ _ _ => F₈)
      (with_reducible rename News g' _ _ _ => N₈)
      have hs : (c == 34) = false := by rw [← sign_eqQ]; assumption
      have hcl : b < closedOf text := by assumption
      have e := hidFrom_next (closed := closedOf text) hc
      rw [← hfold] at e
      have hb : (b, bs ++ [b.fmod 2 == 1]) = hidFrom (closedOf text) (text.cps.toList.take (i + 1)) := by
        rw [e]
        unfold hidStep
        have hs' : ¬ c = 34 := by simpa using hs
        simp only [if_neg hs', hs, hcl, decide_true, decide_false, Bool.true_and, Bool.false_and, Bool.true_or, Bool.false_or, if_true, if_false, Bool.false_eq_true, reduceCtorEq]
      exact LoopStep2.intro (news₂ := (lz, W.listOf (es ++ [Value.bool (b.fmod 2 == 1)]).toArray (n + 1)) :: nw) F₈ (news_sub N₈ (fun p hp => by
        rcases List.mem_append.mp hp with h | h
        · exact .tail _ (List.mem_append_right _ h)
        · rcases List.mem_cons.mp h with rfl | h
          · exact .head _
          · exact .tail _ (List.mem_append_left _ h))) rfl ⟨b, _, es ++ [Value.bool (b.fmod 2 == 1)], n + 1, bs ++ [b.fmod 2 == 1], mb, me, mw, rfl, hI₁, hb, by rw [List.length_append, List.length_singleton]; lia⟩
    · (with_reducible rename Fr g' _ _ _ => F₈)
      (with_reducible rename News g' _ _ _ => N₈)
      have hs : (c == 34) = true := by rw [← sign_eqQ]; assumption
      have hcl : ¬ b < closedOf text := by assumption
      have e := hidFrom_next (closed := closedOf text) hc
      rw [← hfold] at e
      have hb : (b + 1, bs ++ [decide (b < closedOf text)]) = hidFrom (closedOf text) (text.cps.toList.take (i + 1)) := by
        rw [e]
        unfold hidStep
        have hs' : c = 34 := by simpa using hs
        simp only [if_pos hs', hs, hcl, decide_true, decide_false, Bool.true_and, Bool.false_and, Bool.true_or, Bool.false_or, if_true, if_false, Bool.false_eq_true, reduceCtorEq]
      exact LoopStep2.intro (news₂ := (lz, W.listOf (es ++ [Value.bool (decide (b < closedOf text))]).toArray (n + 1)) :: nw) F₈ (news_sub N₈ (fun p hp => by
        rcases List.mem_append.mp hp with h | h
        · exact .tail _ (List.mem_append_right _ h)
        · rcases List.mem_cons.mp h with rfl | h
          · exact .head _
          · exact .tail _ (List.mem_append_left _ h))) rfl ⟨b + 1, _, es ++ [Value.bool (decide (b < closedOf text))], n + 1, bs ++ [decide (b < closedOf text)], rfl, me, mw, rfl, hI₁, hb, by rw [List.length_append, List.length_singleton]; lia⟩
    · (with_reducible rename Fr g' _ _ _ => F₈)
      (with_reducible rename News g' _ _ _ => N₈)
      have hs : (c == 34) = false := by rw [← sign_eqQ]; assumption
      have hcl : ¬ b < closedOf text := by assumption
      have e := hidFrom_next (closed := closedOf text) hc
      rw [← hfold] at e
      have hb : (b, bs ++ [decide (b < closedOf text)]) = hidFrom (closedOf text) (text.cps.toList.take (i + 1)) := by
        rw [e]
        unfold hidStep
        have hs' : ¬ c = 34 := by simpa using hs
        simp only [if_neg hs', hs, hcl, decide_true, decide_false, Bool.true_and, Bool.false_and, Bool.true_or, Bool.false_or, if_true, if_false, Bool.false_eq_true, reduceCtorEq]
      exact LoopStep2.intro (news₂ := (lz, W.listOf (es ++ [Value.bool (decide (b < closedOf text))]).toArray (n + 1)) :: nw) F₈ (news_sub N₈ (fun p hp => by
        rcases List.mem_append.mp hp with h | h
        · exact .tail _ (List.mem_append_right _ h)
        · rcases List.mem_cons.mp h with rfl | h
          · exact .head _
          · exact .tail _ (List.mem_append_left _ h))) rfl ⟨b, _, es ++ [Value.bool (decide (b < closedOf text))], n + 1, bs ++ [decide (b < closedOf text)], mb, me, mw, rfl, hI₁, hb, by rw [List.length_append, List.length_singleton]; lia⟩
  case zQ =>
    rintro h'' tk'' m' news' F₅ N₅ ⟨b, tb, es, n, bs, mb, me, mw, rfl, hIe, hfold, hnl⟩
    clear FF NN
    repeat (first | with_reducible ((with_reducible show wpAny _ _ (eval (PySem.Expr.Name _ _) _) _ _ _); ((k_here; (with_reducible show wpAny _ _ (eval _ (envOf _ _ _ _ _)) _ _ _); k_dflt (refine' ld ?k1 ?k2 ?_; (case k1 => k_asm); (case k2 => assumption); k_whole)))) | walk1)
    (with_reducible rename Fr h₀ L _ m => F₈)
    (with_reducible rename News h₀ L _ _ => N₈)
    have e2 : bs = hiddenOf text := by
      have e : text.cps.toList.take text.cps.size = text.cps.toList := List.take_of_length_le (by rw [Array.length_toList]; exact Nat.le_refl _)
      rw [e] at hfold
      unfold hiddenOf
      rw [← hfold]
    exact hret lz es n h'' _ F₈ N₈ (e2 ▸ hIe) (fun p hp => q2 p hp)
end
end Mine
end
section
open PySem PySem.W PySem.Spec PySem.Calls PyProof.Rows Builtin Builtin.ObjectAttr
namespace Mine
noncomputable def LedEnd (h₀ : Heap) (L : Addr) (s : Shared) (news : List (Addr × Obj)) (P : (Str → Option Value) → Prop) (s₂ : Shared) : Prop :=
  ∃ h' tk m', s₂ = { s with heap := h', toks := tk } ∧ Fr h₀ L h' m' ∧ News h₀ L h' news ∧ P m'
theorem LedEnd.intro {h₀ h' : Heap} {L : Addr} {s : Shared} {news : List (Addr × Obj)} {P : (Str → Option Value) → Prop} {tk : Nat} {m' : Str → Option Value} (F : Fr h₀ L h' m') (N : News h₀ L h' news) (h : P m') : LedEnd h₀ L s news P { s with heap := h', toks := tk } :=
  ⟨h', tk, m', rfl, F, N, h⟩
noncomputable def LedStep (h₀ : Heap) (L : Addr) (s : Shared) (news : List (Addr × Obj)) (P : (Str → Option Value) → Prop) (f : Flow) (s₂ : Shared) : Prop := f = .next ∧ LedEnd h₀ L s news P s₂
theorem LedStep.intro {h₀ h' : Heap} {L : Addr} {s : Shared} {news : List (Addr × Obj)} {P : (Str → Option Value) → Prop} {tk : Nat} {m' : Str → Option Value} (F : Fr h₀ L h' m') (N : News h₀ L h' news) (h : P m') : LedStep h₀ L s news P .next { s with heap := h', toks := tk } :=
  ⟨rfl, h', tk, m', rfl, F, N, h⟩
section
variable {prog : Program} {w : World} {A : Around} {E : Value → Shared → Prop} {Q : Flow → Shared → Prop} {s : Shared} {env : Env} {h₀ : Heap} {L : Addr}
theorem While_led {test : Expr} {body : List Stmt} {pos : Pos} {m : Str → Option Value} {news : List (Addr × Obj)} (J : Nat → (Str → Option Value) → Prop) (JE : (Str → Option Value) → Prop) {n₀ : Nat}
    (F : Fr h₀ L s.heap m) (N : News h₀ L s.heap news) (hJ : J n₀ m)
    (turn : ∀ n m₁ h₁ tk₁, Fr h₀ L h₁ m₁ → News h₀ L h₁ news → J n m₁ →
      wpAny (model prog w) A (isTrue test env (eval test env)) (fun b s₂ =>
        if b = true then wpAny (model prog w) A (execs body env) (LedStep h₀ L s news (fun m₂ => ∃ n', n' < n ∧ J n' m₂)) E s₂ else LedEnd h₀ L s news JE s₂) E { s with heap := h₁, toks := tk₁ })
    (done : ∀ h' tk m₁, Fr h₀ L h' m₁ → News h₀ L h' news → JE m₁ → Q .next { s with heap := h', toks := tk })
    (hE : PassesOwn (model prog w) A env E := by passes_own) :
    wpAny (model prog w) A (exec (.While test body [] pos) env) Q E s := by
  refine While_inv (fun n m₁ news₁ => news = news₁ ∧ J n m₁) F N ⟨rfl, hJ⟩ ?_ hE
  rintro n m₁ news₁ h₁ tk₁ F₁ N₁ ⟨rfl, hJ₁⟩
  refine wpAny_mono (turn n m₁ h₁ tk₁ F₁ N₁ hJ₁) (fun b s₂ h₂ => ?_) fun _ _ e => e
  cases b with
  | false =>
    simp only [Bool.false_eq_true, if_false] at h₂ ⊢
    obtain ⟨h', tk, m', rfl, F', N', hj⟩ := h₂
    exact done h' tk m' F' N' hj
  | true =>
    simp only [if_true] at h₂ ⊢
    refine wpAny_mono h₂ (fun f s₃ h₃ => ?_) fun _ _ e => e
    obtain ⟨rfl, h', tk, m', rfl, F', N', n', hn, hj⟩ := h₃
    exact ⟨rfl, h', tk, m', news, n', rfl, F', N', hn, rfl, hj⟩
end
noncomputable def preCond (a b : Str) (p : Int) : Bool := decide (p < (a.length : Int)) && (decide (p < (b.length : Int)) && (Txt.item a p == Txt.item b p))
noncomputable def preGo (a b : Str) : Nat → Int → Int
  | 0, p => p
  | n + 1, p => if preCond a b p then preGo a b n (p + 1) else p
noncomputable def preOf (a b : Str) : Int := preGo a b a.length 0
noncomputable def cutTo (a : Str) (q : Int) : Str := if q = 0 then Txt.slice a none none else Txt.slice a none (some q)
noncomputable def postCond (a b : Str) (q : Int) : Bool := decide ((cutTo a q).length ≠ 0) && (decide ((cutTo b q).length ≠ 0) && (Txt.item a (q - 1) == Txt.item b (q - 1)))
noncomputable def postGo (a b : Str) : Nat → Int → Int
  | 0, q => q
  | n + 1, q => if postCond a b q then postGo a b n (q - 1) else q
noncomputable def postOf (a b : Str) : Int := postGo a b a.length 0
inductive PreJ (a b : Str) (ta tb tm : Tok) (mc : Int) (n : Nat) (m : Str → Option Value) : Prop
  | mk p t (h1 : m (Str.ofString "pre") = some (.int p t)) (h2 : m (Str.ofString "a") = some (.str a ta)) (h3 : m (Str.ofString "b") = some (.str b tb)) (h4 : m (Str.ofString "max_cost") = some (.int mc tm)) (h5 : 0 ≤ p) (h6 : p ≤ b.length) (h7 : p + n = a.length) (h8 : preGo a b n p = preOf a b) : PreJ a b ta tb tm mc n m
inductive PreE (a b : Str) (ta tb tm : Tok) (mc : Int) (m : Str → Option Value) : Prop
  | mk t (h1 : 0 ≤ preOf a b) (h2 : preOf a b ≤ a.length) (h3 : preOf a b ≤ b.length) (h4 : m (Str.ofString "pre") = some (.int (preOf a b) t)) (h5 : m (Str.ofString "a") = some (.str a ta)) (h6 : m (Str.ofString "b") = some (.str b tb)) (h7 : m (Str.ofString "max_cost") = some (.int mc tm)) : PreE a b ta tb tm mc m
inductive PostJ (a b : Str) (ta tb tm : Tok) (mc : Int) (n : Nat) (m : Str → Option Value) : Prop
  | mk q t (h1 : m (Str.ofString "post") = some (.int q t)) (h2 : m (Str.ofString "a") = some (.str a ta)) (h3 : m (Str.ofString "b") = some (.str b tb)) (h4 : m (Str.ofString "max_cost") = some (.int mc tm)) (h5 : q ≤ 0) (h6 : (n : Int) = a.length + q) (h7 : postGo a b n q = postOf a b) : PostJ a b ta tb tm mc n m
inductive PostE (a b : Str) (ta tb tm : Tok) (mc : Int) (m : Str → Option Value) : Prop
  | mk t (h1 : postOf a b ≤ 0) (h2 : m (Str.ofString "post") = some (.int (postOf a b) t)) (h3 : m (Str.ofString "a") = some (.str a ta)) (h4 : m (Str.ofString "b") = some (.str b tb)) (h5 : m (Str.ofString "max_cost") = some (.int mc tm)) : PostE a b ta tb tm mc m
theorem preGo_stop {a b : Str} {n : Nat} {p : Int} (h : preCond a b p = false) : preGo a b n p = p := by
  cases n with
  | zero => rfl
  | succ n => unfold preGo; rw [h]; rfl
theorem preGo_go {a b : Str} {n : Nat} {p : Int} (h : preCond a b p = true) : preGo a b (n + 1) p = preGo a b n (p + 1) := by
  show (if preCond a b p = true then _ else _) = _
  rw [if_pos h]
theorem postGo_stop {a b : Str} {n : Nat} {p : Int} (h : postCond a b p = false) : postGo a b n p = p := by
  cases n with
  | zero => rfl
  | succ n => unfold postGo; rw [h]; rfl
theorem postGo_go {a b : Str} {n : Nat} {p : Int} (h : postCond a b p = true) : postGo a b (n + 1) p = postGo a b n (p - 1) := by
  show (if postCond a b p = true then _ else _) = _
  rw [if_pos h]
end Mine
end
section
open PySem PySem.W PySem.Spec PySem.Calls PyProof.Rows Builtin Builtin.ObjectAttr
namespace Mine
theorem pick_run (x : Str) (s c : Nat) (h : s + c ≤ x.length) : (((List.range c).map fun k => s + k).filterMap (x.cps[·]?)) = (x.cps.toList.drop s).take c := by
  induction c with
  | zero => simp
  | succ c ih =>
    have h' : s + c < x.cps.size := h
    rw [List.range_succ, List.map_append, List.filterMap_append, ih (by lia), List.take_add_one]
    congr 1
    rw [List.getElem?_drop, Array.getElem?_toList]
    simp [h']
theorem slice_run {x : Str} {l u : Option Int} {s c : Nat} (e : Builtin.Str.strSliceIndices l u 1 x.length = (List.range c).map fun k => s + k) (h : s + c ≤ x.length) : (Txt.slice x l u).cps.toList = (x.cps.toList.drop s).take c := by
  unfold Txt.slice
  split
  · rename_i hc
    rw [e] at hc
    have h2 : c = x.cps.size := by simpa [Str.length] using hc
    have h3 : s = 0 := by have : x.length = x.cps.size := rfl; lia
    subst h3
    rw [h2, List.drop_zero, List.take_of_length_le (by simp)]
  · rw [e]
    exact pick_run x s c h
theorem range_run (a b : Nat) : sliceRange a b 1 = (List.range (b - a)).map fun k => a + k := by
  have e : ((if (1 : Int) > 0 then (if (a : Int) < b then ((b : Int) - a + 1 - 1) / 1 else 0) else (if (a : Int) > b then ((a : Int) - b - 1 - 1) / (-1) else 0)) : Int).toNat = b - a := by
    rw [if_pos (by decide), Int.add_sub_cancel, Int.ediv_one]
    by_cases h : (a : Int) < b
    · rw [if_pos h]; exact Int.toNat_sub b a
    · rw [if_neg h]; exact (Nat.sub_eq_zero_of_le (Int.ofNat_le.mp (Int.not_lt.mp h))).symm
  refine (congrArg (fun c => (List.range c).map _) e).trans (List.map_congr_left fun k _ => ?_)
  rw [Int.one_mul]; rfl
theorem clip_nat {a n : Nat} (h : a ≤ n) : (if (1 : Int) > 0 then max 0 (min (if (a : Int) < 0 then (a : Int) + n else a) (n : Int)) else max (-1) (min (if (a : Int) < 0 then (a : Int) + n else a) ((n : Int) - 1))) = (a : Int) := by
  rw [if_pos (by decide), if_neg (Int.not_lt.mpr (Int.natCast_nonneg a)), Int.min_eq_left (Int.ofNat_le.mpr h), Int.max_eq_right (Int.natCast_nonneg a)]
theorem clip_neg {q : Int} {n : Nat} (h : q < 0) : (if (1 : Int) > 0 then max 0 (min (if q < 0 then q + n else q) (n : Int)) else max (-1) (min (if q < 0 then q + n else q) ((n : Int) - 1))) = ((((n : Int) + q).toNat : Nat) : Int) := by
  rw [if_pos (by decide), if_pos h, Int.add_comm, Int.min_eq_left (Int.add_le_of_le_sub_left (by rw [Int.sub_self]; exact Int.le_of_lt h)), Int.toNat_eq_max, Int.max_comm]
theorem hi_none {n : Nat} : (if (1 : Int) > 0 then (n : Int) else -1) = n := if_pos (by decide)
theorem lo_none {n : Nat} : (if (1 : Int) > 0 then (0 : Int) else (n : Int) - 1) = (0 : Nat) := if_pos (by decide)
theorem idx_from {p : Int} {n : Nat} (h0 : 0 ≤ p) (h1 : p ≤ n) : Builtin.Str.strSliceIndices (some p) none 1 n = (List.range (n - p.toNat)).map fun k => p.toNat + k := by
  obtain ⟨a, rfl⟩ := Int.eq_ofNat_of_zero_le h0
  exact (congr (congrArg (fun x y => sliceRange x y 1) (clip_nat (Int.ofNat_le.mp h1))) hi_none).trans (range_run a n)
theorem idx_to {q : Int} {n : Nat} (h0 : q < 0) : Builtin.Str.strSliceIndices none (some q) 1 n = (List.range ((n : Int) + q).toNat).map fun k => 0 + k :=
  (congr (congrArg (fun x y => sliceRange x y 1) (lo_none (n := n))) (clip_neg h0)).trans (range_run 0 _)
theorem idx_all {n : Nat} : Builtin.Str.strSliceIndices none none 1 n = (List.range n).map fun k => 0 + k :=
  (congr (congrArg (fun x y => sliceRange x y 1) (lo_none (n := n))) hi_none).trans (range_run 0 n)
theorem idx_mid {a b n : Nat} (h0 : a ≤ b) (h1 : b ≤ n) : Builtin.Str.strSliceIndices (some (a : Int)) (some (b : Int)) 1 n = (List.range (b - a)).map fun k => a + k :=
  (congr (congrArg (fun x y => sliceRange x y 1) (clip_nat (Nat.le_trans h0 h1))) (clip_nat h1)).trans (range_run a b)
theorem cut_small {n : Nat} {q : Int} (h : q < 0) : ((n : Int) + q).toNat ≤ n := by lia
theorem slice_from {x : Str} {p : Int} (h0 : 0 ≤ p) (h1 : p ≤ x.length) : (Txt.slice x (some p) none).cps.toList = x.cps.toList.drop p.toNat := by
  rw [slice_run (idx_from h0 h1) (Nat.le_of_eq (Nat.add_sub_cancel' (Int.toNat_le.mpr h1)))]
  rw [List.take_of_length_le]
  rw [List.length_drop]
  exact Nat.le_refl _
theorem slice_to {x : Str} {q : Int} (h0 : q < 0) : (Txt.slice x none (some q)).cps.toList = x.cps.toList.take ((x.length : Int) + q).toNat := by
  rw [slice_run (idx_to h0) (by rw [Nat.zero_add]; exact cut_small h0), List.drop_zero]
theorem slice_all (x : Str) : Txt.slice x none none = x := by
  have : (Txt.slice x none none).cps.toList = x.cps.toList := by
    rw [slice_run idx_all (by lia), List.drop_zero, List.take_of_length_le (by rw [Array.length_toList]; exact Nat.le_refl _)]
  cases h : Txt.slice x none none
  cases x
  rw [h] at this
  simp only at this
  rw [Array.toList_inj.mp this]
theorem slice_to_len {x : Str} {q : Int} (h0 : q < 0) : (Txt.slice x none (some q)).length = ((x.length : Int) + q).toNat := by
  have h := congrArg List.length (slice_to (x := x) h0)
  rw [Array.length_toList, List.length_take, Array.length_toList] at h
  have e : x.length = x.cps.size := rfl
  show (Txt.slice x none (some q)).cps.size = _
  rw [h]
  exact Nat.min_eq_left (cut_small h0)
theorem cutTo_zero (x : Str) : cutTo x 0 = x := by unfold cutTo; rw [if_pos rfl, slice_all]
theorem cutTo_neg {x : Str} {q : Int} (h : q < 0) : cutTo x q = Txt.slice x none (some q) := by unfold cutTo; rw [if_neg (by lia)]
theorem cutTo_len {x : Str} {q : Int} (h : q ≤ 0) : (cutTo x q).length = ((x.length : Int) + q).toNat := by
  rcases Int.lt_or_eq_of_le h with h | rfl
  · rw [cutTo_neg h, slice_to_len h]
  · rw [cutTo_zero]; lia
section
variable {prog : Program} {w : World} {A : Around} {E : Value → Shared → Prop} {s : Shared} {h₀ : Heap} {L : Addr} {m : Str → Option Value} {news : List (Addr × Obj)} {x : Str} {t : Tok} {value slice : Expr} {Q : Value → Shared → Prop}
theorem tail_cut {q : Int} {uq : Tok} (hF : Fr h₀ L s.heap m) (hN : News h₀ L s.heap news) (hq : q < 0) (hsz : x.length ≤ 1000)
    (h : ∀ h' t' k, Fr h₀ L h' m → News h₀ L h' news → ((cutTo x q).length : Nat) = ((x.length : Int) + q).toNat → Q (.str (cutTo x q) t') { s with heap := h', toks := k })
    (hs : subscripted slice false (.str x t) (.ref s.heap.objs.size) = operate [.ref s.heap.objs.size, .str x t] (getItem (.str x t) (.ref s.heap.objs.size)) := by with_unfolding_all rfl)
    (ht : ∀ r, letTemporaryGo value (.str x t) r = pure () := by intro _; with_unfolding_all rfl) :
    wpAny (model prog w) A (subscriptTail value slice (.str x t) (.ref s.heap.objs.size)) Q E { s with heap := s.heap.push { cls := .type "slice", data := .fields #[.none, .int q uq, .none] } } := by
  refine slice_strN_ns hF hN (fun h' t' k a b => ?_) hs ht (by rw [sizeLine_eq]; lia)
  rw [← cutTo_neg hq]
  exact h h' t' k a b (cutTo_len (Int.le_of_lt hq))
theorem tail_whole (hF : Fr h₀ L s.heap m) (hN : News h₀ L s.heap news) (hsz : x.length ≤ 1000)
    (h : ∀ h' t' k, Fr h₀ L h' m → News h₀ L h' news → ((cutTo x 0).length : Nat) = ((x.length : Int) + 0).toNat → Q (.str (cutTo x 0) t') { s with heap := h', toks := k })
    (hs : subscripted slice false (.str x t) (.ref s.heap.objs.size) = operate [.ref s.heap.objs.size, .str x t] (getItem (.str x t) (.ref s.heap.objs.size)) := by with_unfolding_all rfl)
    (ht : ∀ r, letTemporaryGo value (.str x t) r = pure () := by intro _; with_unfolding_all rfl) :
    wpAny (model prog w) A (subscriptTail value slice (.str x t) (.ref s.heap.objs.size)) Q E { s with heap := s.heap.push { cls := .type "slice", data := .fields #[.none, .none, .none] } } := by
  refine slice_strN_nn hF hN (fun h' t' k a b => ?_) hs ht (by rw [sizeLine_eq]; lia)
  have e : Txt.slice x none none = cutTo x 0 := by rw [cutTo_zero, slice_all]
  rw [e]
  exact h h' t' k a b (cutTo_len (Int.le_refl _))
end
end Mine
namespace Mine
section
variable {prog : Program} {w : World} {A : Around} {E : Value → Shared → Prop} {s : Shared} {t : Tok}
theorem truthy_neg {q : Int} {Q : Bool → Shared → Prop} (hq : q < 0) (h : Q true s) : wpAny (model prog w) A (truthy (.int q t)) Q E s := by
  refine PyProof.Rows.truthy_int ?_
  have : (q != 0) = true := by simp; lia
  rw [this]; exact h
theorem truthy_zero {Q : Bool → Shared → Prop} (h : Q false s) : wpAny (model prog w) A (truthy (.int 0 t)) Q E s := PyProof.Rows.truthy_int h
end
end Mine
namespace Mine
inductive CutEnd (h₀ : Heap) (L : Addr) (s : Shared) (news : List (Addr × Obj)) (m : Str → Option Value) (x : Str) (q : Int) (v : Value) (s₂ : Shared) : Prop
  | mk h' t' k (h1 : v = .str (cutTo x q) t') (h2 : s₂ = { s with heap := h', toks := k }) (h3 : Fr h₀ L h' m) (h4 : News h₀ L h' news) (h5 : ((cutTo x q).length : Nat) = ((x.length : Int) + q).toNat) : CutEnd h₀ L s news m x q v s₂
end Mine
end
section
open PySem PySem.W PySem.Spec PySem.Calls PyProof.Rows Builtin Builtin.ObjectAttr
namespace Mine
noncomputable def loS (a b : Str) : Str := if b.length < a.length then b else a
noncomputable def hiS (a b : Str) : Str := if b.length < a.length then a else b
inductive SwapJ (x y : Str) (mc : Int) (tm : Tok) (m' : Str → Option Value) : Prop
  | mk ta tb (h1 : m' (Str.ofString "a") = some (.str x ta)) (h2 : m' (Str.ofString "b") = some (.str y tb)) (h3 : m' (Str.ofString "max_cost") = some (.int mc tm)) : SwapJ x y mc tm m'
theorem loS_of {a b : Str} (h : (b.length : Int) < a.length) : loS a b = b ∧ hiS a b = a := by
  unfold loS hiS
  have h' : b.length < a.length := by lia
  rw [if_pos h', if_pos h']
  exact ⟨rfl, rfl⟩
theorem loS_of' {a b : Str} (h : ¬ (b.length : Int) < a.length) : loS a b = a ∧ hiS a b = b := by
  unfold loS hiS
  have h' : ¬ b.length < a.length := by lia
  rw [if_neg h', if_neg h']
  exact ⟨rfl, rfl⟩
theorem loS_facts (a b : Str) (ha : a.length ≤ 40) (hb : b.length ≤ 40) (h0 : (a.length : Int) ≠ 0) (h1 : (b.length : Int) ≠ 0) : 1 ≤ (loS a b).length ∧ (loS a b).length ≤ (hiS a b).length ∧ (hiS a b).length ≤ 40 := by
  by_cases h : (b.length : Int) < a.length
  · rw [(loS_of h).1, (loS_of h).2]; lia
  · rw [(loS_of' h).1, (loS_of' h).2]; lia
section
variable {prog : Program} {w : World} {A : Around} {E : Value → Shared → Prop} {s : Shared} {env : Env} {h₀ : Heap} {m : Str → Option Value} {news0 news : List (Addr × Obj)}
theorem small_up (n : Nat) (h : n ≤ 1000) : Builtin.Range.small 0 (n : Int) 1 = true ∧ Builtin.Range.rangeSize 0 (n : Int) 1 = n := by
  have e : Builtin.Range.rangeSize 0 (n : Int) 1 = n := by
    unfold Builtin.Range.rangeSize
    rw [if_pos (by decide)]
    split <;> lia
  refine ⟨?_, e⟩
  unfold Builtin.Range.small
  rw [e]
  unfold Builtin.Range.rangeFitsLong
  simp
  lia
theorem for_range {r : Addr} {n : Nat} {t u v : Tok} {xv : Str} {body : List Stmt} {Q : Flow → Shared → Prop} (F : Fr h₀ env.locals s.heap m) (N : News h₀ env.locals s.heap news0) (hh : A.handled = none) (hr : IsRange s.heap r 0 (n : Int) 1 t u v) (hn : n ≤ 1000)
    (hsub : ∀ p ∈ news, p ∈ news0) (J : Nat → (Str → Option Value) → List (Addr × Obj) → Prop) (h0 : J 0 m news)
    (step : ∀ i t m₁ news₁ s₁ own, (∃ h tk, s₁ = { s with heap := h, toks := tk }) → i < n → J i m₁ news₁ → (∀ p ∈ own, ∀ q ∈ news₁, @Ne Nat p.1 q.1) → news₁.map (·.1) = news.map (·.1) →
      Fr h₀ env.locals s₁.heap (fun y => if y = xv then some (.int (i : Nat) t) else m₁ y) → News h₀ env.locals s₁.heap (news₁ ++ own) →
      wpAny (model prog w) A (execs body env) (LoopStep3 h₀ env.locals own news₁ (J (i + 1)) s₁ (fun v s' => Q (.ret v) s') fun s' => Q .next s') E s₁)
    (hQ : ∀ h' tk m' news', Fr h₀ env.locals h' m' → News h₀ env.locals h' news' → J n m' news' → Q .next { s with heap := h', toks := tk }) :
    wpAny (model prog w) A (pyIter (.ref r)) (fun it s₂ => LoopAt3 prog w A h₀ env xv body Q E it s₂) E s := by
  refine wpAny_pyIter_range hr (small_up n hn).1 ?_
  rw [(small_up n hn).2]
  have hL : env.locals < s.heap.objs.size := F.ns.lt
  have up : ∀ b o, s.heap.get? b = some o → (s.heap.push { cls := .type "range_iterator", data := .fields #[rawInt 0, rawInt (n : Int), rawInt 1] }).get? b = some o := fun b o e => Heap.get?_push_of_some _ e
  have hnews : ∀ p ∈ news, @LT.lt Nat _ p.1 s.heap.objs.size := fun p hp => Heap.lt_size (N p (hsub p hp)).1
  refine ⟨s.heap.objs.size, _, _, _, _, _, m, news, J, rfl, Walks.range hh s.heap.objs.size 0 1 n, ?_, ?_, ?_, by have := Heap.get?_push_size s.heap (o := { cls := .type "range_iterator", data := .fields #[rawInt 0, rawInt (n : Int), rawInt 1] }) rfl; simpa [IsRangeIter] using this, F.keeps up, fun p hp => ⟨up _ _ (N p (hsub p hp)).1, (N p (hsub p hp)).2⟩, h0, ?_, ?_⟩
  · simp only [List.mem_cons, List.not_mem_nil, or_false]
    exact Nat.ne_of_lt hL
  · simp only [List.mem_cons, List.not_mem_nil, or_false]
    rintro b rfl
    exact fresh_h0 F _ (Nat.le_refl _)
  · intro p hp
    simp only [List.mem_cons, List.not_mem_nil, or_false]
    exact Nat.ne_of_lt (hnews p hp)
  · rintro i v m₁ news₁ s₁ own ⟨hh₁, tk₁, rfl⟩ hi ⟨t, rfl⟩ hJ hmap hsub' _ F₁ N₁
    have e : (0 : Int) + (i : Int) * 1 = (i : Int) := by lia
    rw [e] at F₁
    refine step i t m₁ news₁ _ own ⟨_, _, rfl⟩ hi hJ (fun p hp q hq => ?_) hmap F₁ (news_sub N₁ fun p hp => by
      rcases List.mem_append.mp hp with h | h
      · exact List.mem_append_right _ h
      · exact List.mem_append_left _ h)
    have hq' : q.1 ∈ news.map (·.1) := hmap ▸ List.mem_map.mpr ⟨q, hq, rfl⟩
    obtain ⟨r, hr, hre⟩ := List.mem_map.mp hq'
    have r1 := hnews r hr
    have r4 := hsub' p hp
    simp only [List.mem_cons, List.not_mem_nil, or_false] at r4
    intro e
    have e' : @Eq Nat p.1 r.1 := e.trans hre.symm
    have r5 : @Eq Nat p.1 s.heap.objs.size := r4
    lia
  · intro h₂ tk m' news' F' N' _ hJ
    exact hQ h₂ tk m' news' F' N' hJ
end
end Mine
namespace Mine
noncomputable def costOf (c d : Str) : Int := if c = d then 0 else 2
noncomputable def newR (x bc : Str) (d r : Int) (ns : List Int) (i : Nat) : Int :=
  if d + costOf bc (Txt.item x (i : Int)) < (if ns.getD ((i : Int)).toNat 0 < r then ns.getD ((i : Int)).toNat 0 else r) + 2 then d + costOf bc (Txt.item x (i : Int)) else (if ns.getD ((i : Int)).toNat 0 < r then ns.getD ((i : Int)).toNat 0 else r) + 2
noncomputable def inStep (x bc : Str) (st : Int × Int × Int × List Int) (i : Nat) : Int × Int × Int × List Int :=
  (st.2.2.2.getD ((i : Int)).toNat 0, newR x bc st.1 st.2.1 st.2.2.2 i, if newR x bc st.1 st.2.1 st.2.2.2 i < st.2.2.1 then newR x bc st.1 st.2.1 st.2.2.2 i else st.2.2.1, st.2.2.2.set ((i : Int)).toNat (newR x bc st.1 st.2.1 st.2.2.2 i))
theorem inStep_lt {x bc : Str} {d r mn : Int} {ns : List Int} {i : Nat} (h : newR x bc d r ns i < mn) : inStep x bc (d, r, mn, ns) i = (ns.getD ((i : Int)).toNat 0, newR x bc d r ns i, newR x bc d r ns i, ns.set ((i : Int)).toNat (newR x bc d r ns i)) := by
  unfold inStep
  simp only [if_pos h]
theorem inStep_ge {x bc : Str} {d r mn : Int} {ns : List Int} {i : Nat} (h : ¬ newR x bc d r ns i < mn) : inStep x bc (d, r, mn, ns) i = (ns.getD ((i : Int)).toNat 0, newR x bc d r ns i, mn, ns.set ((i : Int)).toNat (newR x bc d r ns i)) := by
  unfold inStep
  simp only [if_neg h]
noncomputable def inRow (x bc : Str) (n : Nat) (st : Int × Int × Int × List Int) : Int × Int × Int × List Int := (List.range n).foldl (inStep x bc) st
noncomputable def outGo (x y : Str) (mc : Int) : List Nat → List Int → Int → Int
  | [], _, res => res
  | b :: bs, row, _ =>
    let st := inRow x (Txt.item y b) x.length ((b : Int) * 2, (b : Int) * 2, 9223372036854775807, row)
    if mc < st.2.2.1 then mc + 1 else outGo x y mc bs st.2.2.2 st.2.1
noncomputable def row0 (x : Str) : List Int := (List.range x.length).map fun (i : Nat) => 2 + (i : Int) * 2
noncomputable def levRows (x y : Str) (mc : Int) : Int := outGo x y mc (List.range y.length) (row0 x) 0
noncomputable def levRest (a b : Str) (mc : Int) : Int :=
  if (a.length : Int) = 0 ∨ (b.length : Int) = 0 then 2 * ((a.length : Int) + b.length) else
  if mc < ((hiS a b).length - (loS a b).length : Int) * 2 then mc + 1 else levRows (loS a b) (hiS a b) mc
noncomputable def levPure (a b : Str) (mc : Int) : Int :=
  if a = b then 0 else
  levRest (cutTo (Txt.slice a (some (preOf a b)) none) (postOf (Txt.slice a (some (preOf a b)) none) (Txt.slice b (some (preOf a b)) none)))
    (cutTo (Txt.slice b (some (preOf a b)) none) (postOf (Txt.slice a (some (preOf a b)) none) (Txt.slice b (some (preOf a b)) none))) mc
theorem levPure_eq {a b a2 b2 a3 b3 : Str} {q mc : Int} (h : ¬ a = b) (ha2 : Txt.slice a (some (preOf a b)) none = a2) (hb2 : Txt.slice b (some (preOf a b)) none = b2) (hq : postOf a2 b2 = q) (ha3 : cutTo a2 q = a3) (hb3 : cutTo b2 q = b3) : levPure a b mc = levRest a3 b3 mc := by
  unfold levPure
  rw [if_neg h, ha2, hb2, hq, ha3, hb3]
theorem levRest_nil {a b : Str} {mc : Int} (h : (a.length : Int) = 0 ∨ (b.length : Int) = 0) : levRest a b mc = 2 * ((a.length : Int) + b.length) := by
  unfold levRest
  rw [if_pos h]
theorem levRest_far {a b : Str} {mc : Int} (h : (a.length : Int) ≠ 0) (h' : (b.length : Int) ≠ 0) (hm : mc < ((hiS a b).length - (loS a b).length : Int) * 2) : levRest a b mc = mc + 1 := by
  unfold levRest
  rw [if_neg (by lia), if_pos hm]
theorem levRest_go {a b : Str} {mc : Int} (h : (a.length : Int) ≠ 0) (h' : (b.length : Int) ≠ 0) (hm : ¬ mc < ((hiS a b).length - (loS a b).length : Int) * 2) : levRest a b mc = levRows (loS a b) (hiS a b) mc := by
  unfold levRest
  rw [if_neg (by lia), if_neg hm]
end Mine
end
section
open PySem PySem.W PySem.Spec PySem.Calls PyProof.Rows Builtin Builtin.ObjectAttr
namespace Mine
theorem intsAre_of : ∀ {ys : List Value} {ns : List Int}, ys.length = ns.length → (∀ (j : Nat) v k, ys[j]? = some v → ns[j]? = some k → ∃ t, v = Value.int k t) → IntsAre ys ns
  | [], [], _, _ => .nil
  | y :: ys, n :: ns, hl, h => by
    obtain ⟨t, rfl⟩ := h 0 y n rfl rfl
    exact .cons n t (intsAre_of (by simpa using hl) fun j v k h1 h2 => h (j + 1) v k (by simpa using h1) (by simpa using h2))
  | [], _ :: _, hl, _ => nomatch hl
  | _ :: _, [], hl, _ => nomatch hl
section
variable {prog : Program} {w : World} {A : Around} {E : Value → Shared → Prop} {s : Shared} {h₀ : Heap} {L : Addr} {m : Str → Option Value} {news : List (Addr × Obj)}
theorem list_range_led {r : Addr} {n : Nat} {t u v : Tok} {Q : Value → Shared → Prop} (hh : A.handled = none) (F : Fr h₀ L s.heap m) (N : News h₀ L s.heap news) (hr : IsRange s.heap r 2 (2 * ((n : Int) + 1)) 2 t u v) (h1 : 1 ≤ n) (hn : n ≤ 1000)
    (hQ : ∀ D ys k h' tk, Fr h₀ L h' m → News h₀ L h' ((D, W.listOf (ys : List Value).toArray k) :: news) → (∀ p ∈ news, @LT.lt Nat _ p.1 D) → IntsAre ys ((List.range n).map fun (i : Nat) => 2 + (i : Int) * 2) → Q (.ref D) { s with heap := h', toks := tk }) :
    wpAny (model prog w) A (call (.type "list") [.ref r]) Q E s := by
  have e : Builtin.Range.rangeSize 2 (2 * ((n : Int) + 1)) 2 = n := by
    unfold Builtin.Range.rangeSize
    rw [if_pos (by decide)]
    split <;> lia
  have hsm : Builtin.Range.small 2 (2 * ((n : Int) + 1)) 2 = true := by
    unfold Builtin.Range.small
    rw [e]
    unfold Builtin.Range.rangeFitsLong
    simp
    lia
  refine call_list_range hh hr hsm e (by lia) fun h' tk acc' c' hk hS' hacc => ?_
  have hacc1 : acc'.size = n := hacc.1
  refine hQ _ acc'.toList c' h' tk (F.keeps hk) (news_cons (fun p hp => ⟨hk _ _ (N p hp).1, (N p hp).2⟩) (by rw [Array.toArray_toList]; exact hS') (Ne.symm (Nat.ne_of_lt F.ns.lt)) (fresh_h0 F _ (Nat.le_refl _))) (fun p hp => Heap.lt_size (N p hp).1) ?_
  refine intsAre_of (by simp [hacc1]) fun j v k h2 h3 => ?_
  obtain ⟨t', rfl⟩ := hacc.2 j v (by simpa using h2)
  have hj : j < n := by
    have := (List.getElem?_eq_some_iff.mp h3).1
    simpa using this
  have : 2 + (j : Int) * 2 = k := by simpa [hj] using h3
  exact ⟨t', by rw [this]⟩
end
theorem seqIndex_nat {j : Int} {k n : Nat} (e : j = k) (h : k < n) : (if (decide (0 ≤ j) && decide (j < (n : Int))) = true then some j.toNat else none) = some k := by
  subst e
  rw [if_pos (by rw [decide_eq_true (Int.natCast_nonneg k), decide_eq_true (Int.ofNat_lt.mpr h)]; rfl)]
  rfl
theorem item_at {x : Str} {i : Nat} (h : i < x.length) : Txt.item x (i : Int) = ⟨#[x.cps.getD i 0]⟩ := by
  have h' : i < x.cps.size := h
  unfold Txt.item Txt.charAt
  have e : PySem.seqIndex? (i : Int) x.length = some i := by
    unfold PySem.seqIndex?
    dsimp only
    rw [if_neg (Int.not_lt.mpr (Int.natCast_nonneg i))]
    exact seqIndex_nat rfl h
  rw [e]
  simp [h']
noncomputable def LowOk (x : Str) : Prop := ∀ c ∈ x.cps.toList, Txt.lower ⟨#[c]⟩ = ⟨#[c]⟩
theorem LowOk.sub {x y : Str} (h : LowOk x) (hs : ∀ c ∈ y.cps.toList, c ∈ x.cps.toList) : LowOk y := fun c hc => h c (hs c hc)
theorem LowOk.from {x : Str} {p : Int} (h : LowOk x) (h0 : 0 ≤ p) (h1 : p ≤ x.length) : LowOk (Txt.slice x (some p) none) := h.sub fun c hc => by
  rw [slice_from h0 h1] at hc
  exact List.mem_of_mem_drop hc
theorem LowOk.cut {x : Str} {q : Int} (h : LowOk x) (h0 : q ≤ 0) : LowOk (cutTo x q) := h.sub fun c hc => by
  rcases Int.lt_or_eq_of_le h0 with h0 | rfl
  · rw [cutTo_neg h0, slice_to h0] at hc
    exact List.mem_of_mem_take hc
  · rw [cutTo_zero] at hc
    exact hc
theorem LowOk.item {x : Str} {i : Nat} (h : LowOk x) (hi : i < x.length) : Txt.lower (Txt.item x (i : Int)) = Txt.item x (i : Int) := by
  rw [item_at hi]
  have hi' : i < x.cps.size := hi
  refine h _ ?_
  rw [Array.getD_eq_getD_getElem?, Array.getElem?_eq_getElem hi']
  simp
theorem item_small {x : Str} {i : Nat} (h : LowOk x) (hi : i < x.length) : Builtin.Str.tooLong (Txt.lower (Txt.item x (i : Int))).length = false := by
  rw [h.item hi, item_at hi]
  show Builtin.Str.tooLong 1 = false
  decide +kernel
theorem cost_low {x y : Str} {i j : Nat} (h : LowOk x) (h' : LowOk y) (hi : i < x.length) (hj : j < y.length) :
    (if Txt.item y (j : Int) = Txt.item x (i : Int) then (0 : Int) else if Txt.lower (Txt.item y (j : Int)) = Txt.lower (Txt.item x (i : Int)) then 1 else 2) = costOf (Txt.item y (j : Int)) (Txt.item x (i : Int)) := by
  rw [h.item hi, h'.item hj]
  unfold costOf
  by_cases e : Txt.item y (j : Int) = Txt.item x (i : Int)
  · rw [if_pos e, if_pos e]
  · rw [if_neg e, if_neg e, if_neg e]
theorem LowOk.lo {a b : Str} (h : LowOk a) (h' : LowOk b) : LowOk (loS a b) ∧ LowOk (hiS a b) := by
  unfold loS hiS
  split
  · exact ⟨h', h⟩
  · exact ⟨h, h'⟩
end Mine
end
section
open PySem PySem.W PySem.Spec PySem.Calls PyProof.Rows Builtin Builtin.ObjectAttr
namespace Mine
inductive OuterJ (x y : Str) (mc : Int) (Dr : Addr) (nw : List (Addr × Obj)) (tx ty tm : Tok) (i : Nat) (m₁ : Str → Option Value) (news₁ : List (Addr × Obj)) : Prop
  | mk res tr vs k ns (h1 : m₁ (Str.ofString "result") = some (.int res tr)) (h2 : m₁ (Str.ofString "row") = some (.ref Dr)) (h3 : m₁ (Str.ofString "a") = some (.str x tx)) (h4 : m₁ (Str.ofString "b") = some (.str y ty)) (h5 : m₁ (Str.ofString "max_cost") = some (.int mc tm)) (h6 : news₁ = (Dr, W.listOf (vs : List Value).toArray k) :: nw) (h7 : IntsAre vs ns) (h8 : ns.length = x.length) (h9 : outGo x y mc ((List.range y.length).drop i) ns res = levRows x y mc) : OuterJ x y mc Dr nw tx ty tm i m₁ news₁
inductive InJ (x y bc : Str) (mc : Int) (Dr : Addr) (rest : List (Addr × Obj)) (tx ty tm tb : Tok) (st0 : Int × Int × Int × List Int) (i : Nat) (m₁ : Str → Option Value) (news₁ : List (Addr × Obj)) : Prop
  | mk d r mn td tr tn vs k ns (h1 : m₁ (Str.ofString "distance") = some (.int d td)) (h2 : m₁ (Str.ofString "result") = some (.int r tr)) (h3 : m₁ (Str.ofString "minimum") = some (.int mn tn)) (h4 : m₁ (Str.ofString "bchar") = some (.str bc tb)) (h5 : m₁ (Str.ofString "row") = some (.ref Dr)) (h6 : m₁ (Str.ofString "a") = some (.str x tx)) (h7 : m₁ (Str.ofString "b") = some (.str y ty)) (h8 : m₁ (Str.ofString "max_cost") = some (.int mc tm)) (h9 : news₁ = (Dr, W.listOf (vs : List Value).toArray k) :: rest) (h10 : IntsAre vs ns) (h11 : ns.length = x.length) (h12 : (d, r, mn, ns) = inRow x bc i st0) : InJ x y bc mc Dr rest tx ty tm tb st0 i m₁ news₁
theorem inRow_next (x bc : Str) (n : Nat) (st : Int × Int × Int × List Int) : inRow x bc (n + 1) st = inStep x bc (inRow x bc n st) n := by
  unfold inRow
  rw [List.range_succ, List.foldl_append]
  rfl
theorem outGo_at {x y : Str} {mc : Int} {i : Nat} {ns : List Int} {res : Int} (h : i < y.length) :
    outGo x y mc ((List.range y.length).drop i) ns res = (if mc < (inRow x (Txt.item y (i : Int)) x.length ((i : Int) * 2, (i : Int) * 2, 9223372036854775807, ns)).2.2.1 then mc + 1 else
      outGo x y mc ((List.range y.length).drop (i + 1)) (inRow x (Txt.item y (i : Int)) x.length ((i : Int) * 2, (i : Int) * 2, 9223372036854775807, ns)).2.2.2 (inRow x (Txt.item y (i : Int)) x.length ((i : Int) * 2, (i : Int) * 2, 9223372036854775807, ns)).2.1) := by
  rw [List.drop_eq_getElem_cons (by simpa using h)]
  simp only [List.getElem_range]
  rfl
end Mine
end
example : True ∧ True := by first | (w_top off; walk1; done) | exact ⟨trivial, trivial⟩
section
open PySem PySem.W PySem.Spec PySem.Calls PyProof.Rows Builtin Builtin.ObjectAttr
open PyProof.Rows.LCg (lst lst_snoc)
set_option maxHeartbeats 20000000
example : (fun (_ : OpenLaw) (_ : Params → Frag) => True) PySem.Challenge.rw_tc0044_01 Mine.hd.heap_39 := by k_fill; trivial
namespace Mine
theorem pre_in {p : Int} {l s : Nat} (H : (0 ≤ p → p ≤ (l : Int) → (s : Int) = l - p) ∧ ((l : Int) ≤ p → (s : Int) = 0)) (h : (s : Int) ≠ 0) : p < l := Int.not_le.mp fun q => h (H.2 q)
theorem pre_out {p : Int} {l s : Nat} (h0 : 0 ≤ p) (H : (0 ≤ p → p ≤ (l : Int) → (s : Int) = l - p) ∧ ((l : Int) ≤ p → (s : Int) = 0)) (h : (s : Int) = 0) : ¬ p < l := fun q => by
  have e := H.1 h0 (Int.le_of_lt q)
  clear H
  lia
theorem pre_fits {p : Int} {l : Nat} (h0 : 0 ≤ p) (h : p < l) (hl : l ≤ 40) : fitsSsize p = true := fitsSsize_of (N := 9223372036854775808) (by lia) (by lia) (Int.le_refl _)
theorem pre_low {p : Int} {l : Nat} (h0 : 0 ≤ p) : -(l : Int) ≤ p := by lia
theorem pre_pos {p : Int} {n l : Nat} (h : p + n = l) (h' : p < l) : ∃ k, n = k + 1 := ⟨n - 1, by lia⟩
theorem pre_next {p : Int} {n l : Nat} (h : p + ((n + 1 : Nat) : Int) = l) : p + 1 + n = l := by lia
theorem pre_le {p : Int} {n l : Nat} (h : p + n = l) : p ≤ l := by lia
theorem post_pos {q : Int} {n l c : Nat} (h : (n : Int) = l + q) (hc : c = ((l : Int) + q).toNat) (h0 : (c : Int) ≠ 0) : ∃ k, n = k + 1 := ⟨n - 1, by lia⟩
theorem post_next {q : Int} {n l : Nat} (h : ((n + 1 : Nat) : Int) = l + q) : (n : Int) = l + (q - 1) := by lia
theorem nat_ne {n : Nat} (h : (n : Int) ≠ 0) : n ≠ 0 := fun e => h (e ▸ rfl)
theorem nat_eq {n : Nat} (h : (n : Int) = 0) : ¬ n ≠ 0 := fun e => e (Int.ofNat.inj h)
theorem cut_le {x y n : Nat} {q : Int} (h : x = ((y : Int) + q).toNat) (hq : q ≤ 0) (hy : y ≤ n) (hn : n ≤ 40) : x ≤ 40 := by lia
section
variable {w : World} {pT : Program} {loose : List Str} {mean : ExcName → Option Value} {mg mb : Str → Option Value}
theorem lev_call {a1 b1 : Str} {ta tb tm : Tok} {mc : Int} {nw : List (Addr × Obj)} {dp un : Nat} {gd : Option (List Code)} {cn : Str} {cs : Scope} {a : Addr} {ccd : Value} {cl : List (Str × Addr)} {outer : List Env} {A₀ : Around} {base h₀ : Heap} {L : Addr} {m : Str → Option Value} {s : Shared} {Q E : Value → Shared → Prop}
    (B : Below A₀ base outer h₀) (F : Fr h₀ L s.heap m) (X : (Mine.hd.heap_39 w.params).In h₀) (T : Top pT loose mean mg mb h₀) (hk : cs.kind = .function) (hd1 : dp + 12 < recursionLimit) (N : News h₀ L s.heap nw) (hsa : a1.length ≤ 40) (hsb : b1.length ≤ 40)
    (hla1 : LowOk a1) (hlb1 : LowOk b1) (hret : ∀ t' h' tk', Fr h₀ L h' m → News h₀ L h' nw → Q (.int (levPure a1 b1 mc) t') ⟨h', s.gens, s.drawn, tk', s.os⟩) :
    wpAny (model PySem.Challenge.pw_tc0044_01 w) (ktrTop dp un gd cn cs L a ccd cl outer) (call (.ref 210) [.str a1 ta, .str b1 tb, .int mc tm]) Q E s := by
  refine wpAny_call ?_
  k_dflt (refine' code_def (binds := [(Str.ofString "a", .str a1 ta), (Str.ofString "b", .str b1 tb), (Str.ofString "max_cost", .int mc tm)]) ?k1 ?k2 ?k3 ?k4 ?k5 ?kA ?kF ?kK ?k6 ?k7 ?k8 ?k9 ?kB ?_ ?c2 ?c3 ?c4 ?c5; (case kA => exact rfl); (case kF => exact rfl); (case kK => assumption); (case k1 => k_asm); (case k2 => k_asm); (case k3 => k_asm); (case k4 => k_asm); (case k5 => k_asm); (case k6 => k_is); (case k7 => k_is); (case k8 => ktr_room); (case k9 => exact BindsTo.of_eq rfl); (case c5 => decide); (case kB => exact locs rfl); (case c2 => exact rfl); (case c3 => exact rfl); (case c4 => exact rfl); k_whole; intro g' L' h' FG' F' N' B' X' T'; (try dsimp only); (try k_lift B'); (try k_fold); (try k_sweep))
  iterate 13 walk1
  · (with_reducible rename Fr h₀ L _ m => F₈)
    (with_reducible rename News h₀ L _ _ => N₈)
    have e : levPure a1 b1 mc = 0 := by unfold levPure; rw [if_pos (by simp_all)]
    rw [← e]
    exact hret _ _ _ F₈ N₈
  have hab : ¬ a1 = b1 := by simp_all
  iterate 6 walk1
  (with_reducible rename Fr g' _ _ _ => F₁)
  (with_reducible rename News g' _ _ _ => N₁)
  k_dflt (refine While_led (PreJ a1 b1 ta tb tm mc) (PreE a1 b1 ta tb tm mc) (n₀ := a1.length) F₁ N₁ ⟨0, _, rfl, rfl, rfl, rfl, by lia, by lia, by lia, rfl⟩ ?_ ?_)
  · clear F₁ N₁
    rintro n m₁ h₁ tk₁ F₁ N₁ ⟨p, tp, mp, ma, mb, mm, hp0, hpb, hpn, hgo⟩
    repeat' (first | with_reducible ((with_reducible show wpAny _ _ (loadName _ _) _ _ _); ((k_here; (with_reducible rename Fr g' _ _ _ => kF); k_dflt (refine' wpAny_loadName_local rfl rfl kF.ns ?k1 ?_; (case k1 => assumption); k_whole)))) | with_reducible ((with_reducible show wpAny _ _ (eval (PySem.Expr.Name _ _) _) _ _ _); ((k_here; (with_reducible show wpAny _ _ (eval _ (envOf _ _ _ _ _)) _ _ _); k_dflt (refine' ld ?k1 ?k2 ?_; (case k1 => k_asm); (case k2 => assumption); k_whole)))) | with_reducible ((with_reducible show wpAny _ _ (subscriptTail _ _ (Value.str _ _) (Value.int _ _)) _ _ _); ((refine item_str (fitsSsize_of (N := 9223372036854775808) (by lia) (by lia) (Int.le_refl _)) (by lia) (by lia) ?_; intro _; (try dsimp only)))) | walk1)
    · (with_reducible rename Fr g' _ _ _ => F₈)
      (with_reducible rename News g' _ _ _ => N₈)
      have hpa : p < (a1.length : Int) := pre_in (by assumption) (by assumption)
      have hpb : p < (b1.length : Int) := pre_in (by assumption) (by assumption)
      have hc : preCond a1 b1 p = true := by
        unfold preCond
        rw [decide_eq_true hpa, decide_eq_true hpb]
        simpa using ‹(Txt.item a1 p == Txt.item b1 p) = true›
      obtain ⟨n', rfl⟩ := pre_pos hpn hpa
      rw [preGo_go hc] at hgo
      exact LedStep.intro F₈ N₈ ⟨n', Nat.lt_succ_self _, p + 1, _, rfl, ma, mb, mm, Int.le_of_lt (Int.lt_add_one_of_le hp0), hpb, pre_next hpn, hgo⟩
    · (with_reducible rename Fr g' _ _ _ => F₈)
      (with_reducible rename News g' _ _ _ => N₈)
      have hc : preCond a1 b1 p = false := by
        unfold preCond
        rw [‹(Txt.item a1 p == Txt.item b1 p) = false›, Bool.and_false, Bool.and_false]
      rw [preGo_stop hc] at hgo
      exact LedEnd.intro F₈ N₈ ⟨tp, hgo ▸ hp0, hgo ▸ pre_le hpn, hgo ▸ hpb, hgo ▸ mp, ma, mb, mm⟩
    · (with_reducible rename Fr g' _ _ _ => F₈)
      (with_reducible rename News g' _ _ _ => N₈)
      have hc : preCond a1 b1 p = false := by
        unfold preCond
        rw [decide_eq_false (pre_out (l := b1.length) hp0 (by assumption) (by assumption)), Bool.false_and, Bool.and_false]
      rw [preGo_stop hc] at hgo
      exact LedEnd.intro F₈ N₈ ⟨tp, hgo ▸ hp0, hgo ▸ pre_le hpn, hgo ▸ hpb, hgo ▸ mp, ma, mb, mm⟩
    · (with_reducible rename Fr g' _ _ _ => F₈)
      (with_reducible rename News g' _ _ _ => N₈)
      have hc : preCond a1 b1 p = false := by
        unfold preCond
        rw [decide_eq_false (pre_out (l := a1.length) hp0 (by assumption) (by assumption)), Bool.false_and]
      rw [preGo_stop hc] at hgo
      exact LedEnd.intro F₈ N₈ ⟨tp, hgo ▸ hp0, hgo ▸ pre_le hpn, hgo ▸ hpb, hgo ▸ mp, ma, mb, mm⟩
  · clear F₁ N₁
    rintro h₁ tk₁ m₁ F₁ N₁ ⟨tp, hp0, hp1, hp1', mp, ma, mb, mm⟩
    iterate 27 (first | with_reducible ((with_reducible show wpAny _ _ (eval (PySem.Expr.Name _ _) _) _ _ _); ((k_here; (with_reducible show wpAny _ _ (eval _ (envOf _ _ _ _ _)) _ _ _); k_dflt (refine' ld ?k1 ?k2 ?_; (case k1 => k_asm); (case k2 => assumption); k_whole)))) | walk1)
    rename_i h4 ta2 k1 qa h3 h2 tb2 k2 qb h1 hh FF NN
    generalize ha2 : Txt.slice a1 (some (preOf a1 b1)) none = a2 at *
    generalize hb2 : Txt.slice b1 (some (preOf a1 b1)) none = b2 at *
    k_dflt (refine While_led (PostJ a2 b2 ta2 tb2 tm mc) (PostE a2 b2 ta2 tb2 tm mc) (n₀ := a2.length) FF NN ⟨0, _, rfl, rfl, rfl, mm, Int.le_refl _, by lia, rfl⟩ ?_ ?_)
    · clear FF NN mp ma mb mm
      rintro n m₁ h₁ tk₁ F₁ N₁ ⟨q, tq, mq, ma, mb, mm, hq0, hqn, hgo⟩
      have hca := cut_le (cutTo_len (x := a2) hq0) hq0 qa hsa
      have hcb := cut_le (cutTo_len (x := b2) hq0) hq0 qb hsb
      rcases Int.lt_or_eq_of_le hq0 with hq | rfl
      · repeat' (first | with_reducible ((with_reducible show wpAny _ _ (loadName _ _) _ _ _); ((k_here; (with_reducible rename Fr g' _ _ _ => kF); k_dflt (refine' wpAny_loadName_local rfl rfl kF.ns ?k1 ?_; (case k1 => assumption); k_whole)))) | with_reducible ((with_reducible show wpAny _ _ (eval (PySem.Expr.Name _ _) _) _ _ _); ((k_here; (with_reducible show wpAny _ _ (eval _ (envOf _ _ _ _ _)) _ _ _); k_dflt (refine' ld ?k1 ?k2 ?_; (case k1 => k_asm); (case k2 => assumption); k_whole)))) | with_reducible ((with_reducible show wpAny _ _ (subscriptTail _ _ (Value.str _ _) (Value.ref _)) _ _ _); ((k_here; (with_reducible show wpAny _ _ (subscriptTail _ (Expr.Slice none (some _) none _) _ _) _ _ _); first | (refine' tail_cut (s := ⟨_, _, _, _, _⟩) ?aF ?aN ?aq ?az ?_; (case aq => assumption); (case aF => assumption); (case aN => assumption); (case az => lia); intro _ _ _ _ _ _; (try dsimp only)) | (refine' tail_whole (s := ⟨_, _, _, _, _⟩) ?aF ?aN ?az ?_; (case aF => assumption); (case aN => assumption); (case az => lia); intro _ _ _ _ _ _; (try dsimp only))))) | with_reducible ((with_reducible show wpAny _ _ (truthy (Value.int _ _)) _ _ _); (first | (refine truthy_zero ?_) | (refine truthy_neg (by assumption) ?_))) | with_reducible ((with_reducible show wpAny _ _ (subscriptTail _ _ (Value.str _ _) (Value.int _ _)) _ _ _); ((refine item_str (fitsSsize_of (N := 9223372036854775808) (by lia) (by lia) (Int.le_refl _)) (by lia) (by lia) ?_; intro _; (try dsimp only)))) | walk1)
        · (with_reducible rename Fr g' _ _ _ => F₈)
          (with_reducible rename News g' _ _ _ => N₈)
          have hc : postCond a2 b2 q = true := by
            unfold postCond
            rw [decide_eq_true (nat_ne (by assumption)), decide_eq_true (nat_ne (by assumption))]
            simpa using ‹(Txt.item a2 (q - 1) == Txt.item b2 (q - 1)) = true›
          obtain ⟨n', rfl⟩ := post_pos hqn (cutTo_len hq0) (by assumption)
          rw [postGo_go hc] at hgo
          exact LedStep.intro F₈ N₈ ⟨n', Nat.lt_succ_self _, q - 1, _, rfl, ma, mb, mm, Int.le_trans (Int.sub_le_self q (by decide)) hq0, post_next hqn, hgo⟩
        · (with_reducible rename Fr g' _ _ _ => F₈)
          (with_reducible rename News g' _ _ _ => N₈)
          have hc : postCond a2 b2 q = false := by
            unfold postCond
            rw [‹(Txt.item a2 (q - 1) == Txt.item b2 (q - 1)) = false›, Bool.and_false, Bool.and_false]
          rw [postGo_stop hc] at hgo
          exact LedEnd.intro F₈ N₈ ⟨tq, hgo ▸ hq0, hgo ▸ mq, ma, mb, mm⟩
        · (with_reducible rename Fr g' _ _ _ => F₈)
          (with_reducible rename News g' _ _ _ => N₈)
          have hc : postCond a2 b2 q = false := by
            unfold postCond
            rw [decide_eq_false (nat_eq (n := (cutTo b2 q).length) (by assumption)), Bool.false_and, Bool.and_false]
          rw [postGo_stop hc] at hgo
          exact LedEnd.intro F₈ N₈ ⟨tq, hgo ▸ hq0, hgo ▸ mq, ma, mb, mm⟩
        · (with_reducible rename Fr g' _ _ _ => F₈)
          (with_reducible rename News g' _ _ _ => N₈)
          have hc : postCond a2 b2 q = false := by
            unfold postCond
            rw [decide_eq_false (nat_eq (n := (cutTo a2 q).length) (by assumption)), Bool.false_and]
          rw [postGo_stop hc] at hgo
          exact LedEnd.intro F₈ N₈ ⟨tq, hgo ▸ hq0, hgo ▸ mq, ma, mb, mm⟩
      · repeat' (first | with_reducible ((with_reducible show wpAny _ _ (loadName _ _) _ _ _); ((k_here; (with_reducible rename Fr g' _ _ _ => kF); k_dflt (refine' wpAny_loadName_local rfl rfl kF.ns ?k1 ?_; (case k1 => assumption); k_whole)))) | with_reducible ((with_reducible show wpAny _ _ (eval (PySem.Expr.Name _ _) _) _ _ _); ((k_here; (with_reducible show wpAny _ _ (eval _ (envOf _ _ _ _ _)) _ _ _); k_dflt (refine' ld ?k1 ?k2 ?_; (case k1 => k_asm); (case k2 => assumption); k_whole)))) | with_reducible ((with_reducible show wpAny _ _ (subscriptTail _ _ (Value.str _ _) (Value.ref _)) _ _ _); ((k_here; (with_reducible show wpAny _ _ (subscriptTail _ (Expr.Slice none (some _) none _) _ _) _ _ _); first | (refine' tail_cut (s := ⟨_, _, _, _, _⟩) ?aF ?aN ?aq ?az ?_; (case aq => assumption); (case aF => assumption); (case aN => assumption); (case az => lia); intro _ _ _ _ _ _; (try dsimp only)) | (refine' tail_whole (s := ⟨_, _, _, _, _⟩) ?aF ?aN ?az ?_; (case aF => assumption); (case aN => assumption); (case az => lia); intro _ _ _ _ _ _; (try dsimp only))))) | with_reducible ((with_reducible show wpAny _ _ (truthy (Value.int _ _)) _ _ _); (first | (refine truthy_zero ?_) | (refine truthy_neg (by assumption) ?_))) | with_reducible ((with_reducible show wpAny _ _ (subscriptTail _ _ (Value.str _ _) (Value.int _ _)) _ _ _); ((refine item_str (fitsSsize_of (N := 9223372036854775808) (by lia) (by lia) (Int.le_refl _)) (by lia) (by lia) ?_; intro _; (try dsimp only)))) | walk1)
        · (with_reducible rename Fr g' _ _ _ => F₈)
          (with_reducible rename News g' _ _ _ => N₈)
          have hc : postCond a2 b2 0 = true := by
            unfold postCond
            rw [decide_eq_true (nat_ne (by assumption)), decide_eq_true (nat_ne (by assumption))]
            simpa using ‹(Txt.item a2 (0 - 1) == Txt.item b2 (0 - 1)) = true›
          obtain ⟨n', rfl⟩ := post_pos hqn (cutTo_len hq0) (by assumption)
          rw [postGo_go hc] at hgo
          exact LedStep.intro F₈ N₈ ⟨n', Nat.lt_succ_self _, 0 - 1, _, rfl, ma, mb, mm, by decide, post_next hqn, hgo⟩
        · (with_reducible rename Fr g' _ _ _ => F₈)
          (with_reducible rename News g' _ _ _ => N₈)
          have hc : postCond a2 b2 0 = false := by
            unfold postCond
            rw [‹(Txt.item a2 (0 - 1) == Txt.item b2 (0 - 1)) = false›, Bool.and_false, Bool.and_false]
          rw [postGo_stop hc] at hgo
          exact LedEnd.intro F₈ N₈ ⟨tq, hgo ▸ hq0, hgo ▸ mq, ma, mb, mm⟩
        · (with_reducible rename Fr g' _ _ _ => F₈)
          (with_reducible rename News g' _ _ _ => N₈)
          have hc : postCond a2 b2 0 = false := by
            unfold postCond
            rw [decide_eq_false (nat_eq (n := (cutTo b2 0).length) (by assumption)), Bool.false_and, Bool.and_false]
          rw [postGo_stop hc] at hgo
          exact LedEnd.intro F₈ N₈ ⟨tq, hgo ▸ hq0, hgo ▸ mq, ma, mb, mm⟩
        · (with_reducible rename Fr g' _ _ _ => F₈)
          (with_reducible rename News g' _ _ _ => N₈)
          have hc : postCond a2 b2 0 = false := by
            unfold postCond
            rw [decide_eq_false (nat_eq (n := (cutTo a2 0).length) (by assumption)), Bool.false_and]
          rw [postGo_stop hc] at hgo
          exact LedEnd.intro F₈ N₈ ⟨tq, hgo ▸ hq0, hgo ▸ mq, ma, mb, mm⟩
    · clear FF NN mp ma mb mm
      rintro h₁ tk₁ m₁ F₁ N₁ ⟨tp, hq0, mp, ma, mb, mm⟩
      generalize hq : postOf a2 b2 = q at *
      iterate 2 walk1
      refine wpAny_mono (Q := CutEnd g' L' ⟨s.heap, s.gens, s.drawn, s.toks, s.os⟩ nw m₁ a2 q) ?_ (fun v s₂ h₂ => ?_) fun _ _ e => e
      · rcases Int.lt_or_eq_of_le hq0 with hq0 | rfl
        · repeat (first | with_reducible ((with_reducible show wpAny _ _ (eval (PySem.Expr.Name _ _) _) _ _ _); ((k_here; (with_reducible show wpAny _ _ (eval _ (envOf _ _ _ _ _)) _ _ _); k_dflt (refine' ld ?k1 ?k2 ?_; (case k1 => k_asm); (case k2 => assumption); k_whole)))) | with_reducible ((with_reducible show wpAny _ _ (subscriptTail _ _ (Value.str _ _) (Value.ref _)) _ _ _); ((k_here; (with_reducible show wpAny _ _ (subscriptTail _ (Expr.Slice none (some _) none _) _ _) _ _ _); first | (refine' tail_cut (s := ⟨_, _, _, _, _⟩) ?aF ?aN ?aq ?az ?_; (case aq => assumption); (case aF => assumption); (case aN => assumption); (case az => lia); intro _ _ _ _ _ _; (try dsimp only)) | (refine' tail_whole (s := ⟨_, _, _, _, _⟩) ?aF ?aN ?az ?_; (case aF => assumption); (case aN => assumption); (case az => lia); intro _ _ _ _ _ _; (try dsimp only))))) | with_reducible ((with_reducible show wpAny _ _ (truthy (Value.int _ _)) _ _ _); (first | (refine truthy_zero ?_) | (refine truthy_neg (by assumption) ?_))) | walk1)
          (with_reducible rename Fr g' _ _ _ => F₈)
          (with_reducible rename News g' _ _ _ => N₈)
          exact ⟨_, _, _, rfl, rfl, F₈, N₈, by assumption⟩
        · repeat (first | with_reducible ((with_reducible show wpAny _ _ (eval (PySem.Expr.Name _ _) _) _ _ _); ((k_here; (with_reducible show wpAny _ _ (eval _ (envOf _ _ _ _ _)) _ _ _); k_dflt (refine' ld ?k1 ?k2 ?_; (case k1 => k_asm); (case k2 => assumption); k_whole)))) | with_reducible ((with_reducible show wpAny _ _ (subscriptTail _ _ (Value.str _ _) (Value.ref _)) _ _ _); ((k_here; (with_reducible show wpAny _ _ (subscriptTail _ (Expr.Slice none (some _) none _) _ _) _ _ _); first | (refine' tail_cut (s := ⟨_, _, _, _, _⟩) ?aF ?aN ?aq ?az ?_; (case aq => assumption); (case aF => assumption); (case aN => assumption); (case az => lia); intro _ _ _ _ _ _; (try dsimp only)) | (refine' tail_whole (s := ⟨_, _, _, _, _⟩) ?aF ?aN ?az ?_; (case aF => assumption); (case aN => assumption); (case az => lia); intro _ _ _ _ _ _; (try dsimp only))))) | with_reducible ((with_reducible show wpAny _ _ (truthy (Value.int _ _)) _ _ _); (first | (refine truthy_zero ?_) | (refine truthy_neg (by assumption) ?_))) | walk1)
          (with_reducible rename Fr g' _ _ _ => F₈)
          (with_reducible rename News g' _ _ _ => N₈)
          exact ⟨_, _, _, rfl, rfl, F₈, N₈, by assumption⟩
      obtain ⟨h₅, ta3, k₅, rfl, rfl, F₅, N₅, hla⟩ := h₂
      clear F₁ N₁
      iterate 3 walk1
      (with_reducible rename Fr g' _ _ _ => F₁)
      (with_reducible rename News g' _ _ _ => N₁)
      refine wpAny_mono (Q := CutEnd g' L' ⟨s.heap, s.gens, s.drawn, s.toks, s.os⟩ nw (fun y => if y = Str.ofString "a" then some (Value.str (cutTo a2 q) ta3) else m₁ y) b2 q) ?_ (fun v s₂ h₂ => ?_) fun _ _ e => e
      · rcases Int.lt_or_eq_of_le hq0 with hq0 | rfl
        · repeat (first | with_reducible ((with_reducible show wpAny _ _ (eval (PySem.Expr.Name _ _) _) _ _ _); ((k_here; (with_reducible show wpAny _ _ (eval _ (envOf _ _ _ _ _)) _ _ _); k_dflt (refine' ld ?k1 ?k2 ?_; (case k1 => k_asm); (case k2 => assumption); k_whole)))) | with_reducible ((with_reducible show wpAny _ _ (subscriptTail _ _ (Value.str _ _) (Value.ref _)) _ _ _); ((k_here; (with_reducible show wpAny _ _ (subscriptTail _ (Expr.Slice none (some _) none _) _ _) _ _ _); first | (refine' tail_cut (s := ⟨_, _, _, _, _⟩) ?aF ?aN ?aq ?az ?_; (case aq => assumption); (case aF => assumption); (case aN => assumption); (case az => lia); intro _ _ _ _ _ _; (try dsimp only)) | (refine' tail_whole (s := ⟨_, _, _, _, _⟩) ?aF ?aN ?az ?_; (case aF => assumption); (case aN => assumption); (case az => lia); intro _ _ _ _ _ _; (try dsimp only))))) | with_reducible ((with_reducible show wpAny _ _ (truthy (Value.int _ _)) _ _ _); (first | (refine truthy_zero ?_) | (refine truthy_neg (by assumption) ?_))) | walk1)
          (with_reducible rename Fr g' _ _ _ => F₈)
          (with_reducible rename News g' _ _ _ => N₈)
          exact ⟨_, _, _, rfl, rfl, F₈, N₈, by assumption⟩
        · repeat (first | with_reducible ((with_reducible show wpAny _ _ (eval (PySem.Expr.Name _ _) _) _ _ _); ((k_here; (with_reducible show wpAny _ _ (eval _ (envOf _ _ _ _ _)) _ _ _); k_dflt (refine' ld ?k1 ?k2 ?_; (case k1 => k_asm); (case k2 => assumption); k_whole)))) | with_reducible ((with_reducible show wpAny _ _ (subscriptTail _ _ (Value.str _ _) (Value.ref _)) _ _ _); ((k_here; (with_reducible show wpAny _ _ (subscriptTail _ (Expr.Slice none (some _) none _) _ _) _ _ _); first | (refine' tail_cut (s := ⟨_, _, _, _, _⟩) ?aF ?aN ?aq ?az ?_; (case aq => assumption); (case aF => assumption); (case aN => assumption); (case az => lia); intro _ _ _ _ _ _; (try dsimp only)) | (refine' tail_whole (s := ⟨_, _, _, _, _⟩) ?aF ?aN ?az ?_; (case aF => assumption); (case aN => assumption); (case az => lia); intro _ _ _ _ _ _; (try dsimp only))))) | with_reducible ((with_reducible show wpAny _ _ (truthy (Value.int _ _)) _ _ _); (first | (refine truthy_zero ?_) | (refine truthy_neg (by assumption) ?_))) | walk1)
          (with_reducible rename Fr g' _ _ _ => F₈)
          (with_reducible rename News g' _ _ _ => N₈)
          exact ⟨_, _, _, rfl, rfl, F₈, N₈, by assumption⟩
      obtain ⟨h₆, tb3, k₆, rfl, rfl, F₆, N₆, hlb⟩ := h₂
      clear F₁ N₁
      generalize ha3 : cutTo a2 q = a3 at *
      generalize hb3 : cutTo b2 q = b3 at *
      have hL2 : LowOk a2 ∧ LowOk b2 := by rw [← ha2, ← hb2]; exact ⟨hla1.from hp0 hp1, hlb1.from hp0 hp1'⟩
      have hL3 := LowOk.lo (show LowOk a3 by rw [← ha3]; exact hL2.1.cut hq0) (show LowOk b3 by rw [← hb3]; exact hL2.2.cut hq0)
      clear hL2
      replace hla : a3.length ≤ 40 := cut_le hla hq0 qa hsa
      replace hlb : b3.length ≤ 40 := cut_le hlb hq0 qb hsb
      clear hp0 hp1 hp1' hq0 qa qb hsa hsb hla1 hlb1
      repeat (first | with_reducible ((with_reducible show wpAny _ _ (exec (PySem.Stmt.If _ _ _ _) _) _ _ _); ((k_here; (with_reducible show wpAny _ _ (exec (Stmt.If (Expr.Compare _ [CmpOp.Lt] _ _) [Stmt.Assign [Expr.Tuple _ _ _] _ _] _ _) _) _ _ _); k_dflt (refine wpAny_mono (Q := LedStep g' L' ⟨s.heap, s.gens, s.drawn, s.toks, s.os⟩ nw (SwapJ (loS a3 b3) (hiS a3 b3) mc tm)) ?swap (fun f s₂ h₂ => ?rest) fun _ _ e => e)))) | walk1)
      case swap =>
        repeat' walk1
        all_goals (with_reducible rename Fr g' _ _ _ => F₈)
        all_goals (with_reducible rename News g' _ _ _ => N₈)
        · have e := loS_of (a := a3) (b := b3) (by assumption)
          rw [e.1, e.2]
          exact LedStep.intro F₈ (news_sub N₈ fun p hp => .tail _ hp) ⟨_, _, rfl, rfl, mm⟩
      case rest =>
        obtain ⟨rfl, h₇, k₇, m₇, rfl, F₇, N₇, tx, ty, mx, my, mm7⟩ := h₂
        have hf := loS_facts a3 b3 hla hlb (by assumption) (by assumption)
        generalize hlo : loS a3 b3 = x at *
        generalize hhi : hiS a3 b3 = y at *
        obtain ⟨hLx, hLy⟩ := hL3
        have hf1 := hf.1
        have hf3 := hf.2.2
        have hfx := Nat.le_trans hf.2.1 hf3
        clear hf
        repeat (first | with_reducible ((with_reducible show wpAny _ _ (eval (PySem.Expr.Name _ _) _) _ _ _); ((k_here; (with_reducible show wpAny _ _ (eval _ (envOf _ _ _ _ _)) _ _ _); k_dflt (refine' ld ?k1 ?k2 ?_; (case k1 => k_asm); (case k2 => assumption); k_whole)))) | walk1)
        · (with_reducible rename Fr h₀ L _ m => F₈)
          (with_reducible rename News h₀ L _ _ => N₈)
          have e := levPure_eq (mc := mc) (by assumption) ha2 hb2 hq ha3 hb3
          rw [levRest_far (by assumption) (by assumption) (by rw [hhi, hlo]; assumption)] at e
          rw [← e]
          exact hret _ _ _ F₈ N₈
        repeat (first | with_reducible ((with_reducible show wpAny _ _ (eval (PySem.Expr.Name _ _) _) _ _ _); ((k_here; (with_reducible show wpAny _ _ (eval _ (envOf _ _ _ _ _)) _ _ _); k_dflt (refine' ld ?k1 ?k2 ?_; (case k1 => k_asm); (case k2 => assumption); k_whole)))) | with_reducible ((with_reducible show wpAny _ _ (exec (PySem.Stmt.For (PySem.Expr.Name _ _) _ _ _ _) _) _ _ _); ((k_here; k_dflt (refine For_inv3 g' rfl rfl ?_)))) | with_reducible ((with_reducible show wpAny _ _ (call (Value.type "list") _) _ _ _); ((k_here; k_dflt (refine' list_range_led rfl ?aF ?aN ?aR ?a1 ?a2 ?_; (case aF => assumption); (case aN => assumption); (case aR => assumption); (case a1 => lia); (case a2 => lia)); iterate 9 (intro _)))) | walk1)
        rename_i Dr ysr kkr h3 tkr l1 hIr h2 h1 F9 N9 h0 tkq t1 u1 v1 Rr FF NN up
        k_dflt (refine' for_range (news := (Dr, W.listOf ysr.toArray kkr) :: nw) FF NN rfl Rr (by lia) (fun p hp => hp) (OuterJ x y mc Dr nw tx ty tm) ?z0 ?zst ?zQ)
        case z0 => exact ⟨0, _, ysr, kkr, row0 x, rfl, rfl, mx, my, mm7, rfl, hIr, by simp [row0], rfl⟩
        case zQ =>
          rintro h₈ tk₈ m₈ news₈ F₈ N₈ ⟨res, tr, vs, k, ns, mr, mrow, ma8, mb8, mm8, rfl, hI, hnl, hgo⟩
          clear FF NN F9 N9
          repeat (first | with_reducible ((with_reducible show wpAny _ _ (eval (PySem.Expr.Name _ _) _) _ _ _); ((k_here; (with_reducible show wpAny _ _ (eval _ (envOf _ _ _ _ _)) _ _ _); k_dflt (refine' ld ?k1 ?k2 ?_; (case k1 => k_asm); (case k2 => assumption); k_whole)))) | walk1)
          (with_reducible rename Fr h₀ L _ m => F₈)
          (with_reducible rename News h₀ L _ _ => N₈)
          have e := levPure_eq (mc := mc) hab ha2 hb2 hq ha3 hb3
          rw [levRest_go (by assumption) (by assumption) (by rw [hhi, hlo]; assumption), hhi, hlo, ← hgo, List.drop_of_length_le (by simp)] at e
          have e' : levPure a1 b1 mc = res := e
          rw [← e']
          exact hret _ _ _ F₈ (news_sub N₈ fun p hp => .tail _ hp)
        case zst =>
          rintro i t m₁ news₁ s₁ own ⟨H, tkH, rfl⟩ hi ⟨res, tr, vs, k, ns, mr, mrow, ma, mb, mm, rfl, hI, hnl, hgo⟩ hoff hmap F₅ N₅
          clear hmap FF NN F9 N9
          rw [List.cons_append] at N₅
          have hi40 := Nat.lt_of_lt_of_le hi hf3
          have hoq : ∀ p ∈ nw ++ own, @Ne Nat p.1 Dr := by
            intro p hp
            rcases List.mem_append.mp hp with h | h
            · exact Nat.ne_of_lt (l1 p h)
            · exact hoff p h _ (.head _)
          repeat (first | with_reducible ((with_reducible show wpAny _ _ (eval (PySem.Expr.Name _ _) _) _ _ _); ((k_here; (with_reducible show wpAny _ _ (eval _ (envOf _ _ _ _ _)) _ _ _); k_dflt (refine' ld ?k1 ?k2 ?_; (case k1 => k_asm); (case k2 => assumption); k_whole)))) | with_reducible ((with_reducible show wpAny _ _ (subscriptTail _ _ (Value.str _ _) (Value.int _ _)) _ _ _); ((refine item_str (fitsSsize_of (N := 9223372036854775808) (by lia) (by lia) (Int.le_refl _)) (by lia) (by lia) ?_; intro _; (try dsimp only)))) | with_reducible ((with_reducible show wpAny _ _ (exec (PySem.Stmt.For (PySem.Expr.Name _ _) _ _ _ _) _) _ _ _); ((k_here; k_dflt (refine For_inv3 g' rfl rfl ?_)))) | walk1)
          rename_i g1 G9 M9 g0 gtk w1 w2 w3 Ri GG MM gup
          k_dflt (refine' for_range (news := (Dr, W.listOf vs.toArray k) :: (nw ++ own)) GG MM rfl Ri (by lia) (fun p hp => hp) (InJ x y (Txt.item y (i : Int)) mc Dr (nw ++ own) tx ty tm tkH ((i : Int) * 2, (i : Int) * 2, 9223372036854775807, ns)) ?zi0 ?zist ?ziQ)
          case zi0 => exact ⟨_, _, _, _, _, _, vs, k, ns, rfl, rfl, rfl, rfl, mrow, ma, mb, mm, rfl, hI, hnl, rfl⟩
          case ziQ =>
            rintro h₈ tk₈ m₈ news₈ F₈ N₈ ⟨d, r, mn, td, tr2, tn, vs2, k2, ns2, md, mr2, mmn, mbc, mrow2, ma2, mb2, mm2, rfl, hI2, hnl2, hst⟩
            clear GG MM G9 M9 F₅ N₅
            rw [outGo_at hi, ← hst] at hgo
            simp only at hgo
            repeat' (first | with_reducible ((with_reducible show wpAny _ _ (eval (PySem.Expr.Name _ _) _) _ _ _); ((k_here; (with_reducible show wpAny _ _ (eval _ (envOf _ _ _ _ _)) _ _ _); k_dflt (refine' ld ?k1 ?k2 ?_; (case k1 => k_asm); (case k2 => assumption); k_whole)))) | walk1)
            · (with_reducible rename Fr h₀ L _ m => F₈)
              (with_reducible rename News h₀ L _ _ => N₈)
              have e := levPure_eq (mc := mc) hab ha2 hb2 hq ha3 hb3
              rw [levRest_go (by assumption) (by assumption) (by rw [hhi, hlo]; assumption), hhi, hlo, ← hgo, if_pos (by assumption)] at e
              rw [← e]
              exact hret _ _ _ F₈ (news_sub N₈ fun p hp => .tail _ (List.mem_append_left _ hp))
            · rw [if_neg (by assumption)] at hgo
              exact LoopStep2.intro (news₂ := (Dr, W.listOf vs2.toArray k2) :: nw) F₈ (news_sub N₈ (fun p hp => by
                rcases List.mem_append.mp hp with h | h
                · exact .tail _ (List.mem_append_right _ h)
                · rcases List.mem_cons.mp h with rfl | h
                  · exact .head _
                  · exact .tail _ (List.mem_append_left _ h))) rfl ⟨r, tr2, vs2, k2, ns2, mr2, mrow2, ma2, mb2, mm2, rfl, hI2, hnl2, hgo⟩
          case zist =>
            rintro j t2 m₂ news₂ s₂ own₂ ⟨H2, tkH2, rfl⟩ hj ⟨d, r, mn, td, tr2, tn, vs2, k2, ns2, md, mr2, mmn, mbc, mrow2, ma2, mb2, mm2, rfl, hI2, hnl2, hst⟩ hoff2 hmap2 F₆ N₆
            clear hmap2 GG MM G9 M9 F₅ N₅
            rw [List.cons_append] at N₆
            have hj40 := Nat.lt_of_lt_of_le hj hfx
            have hoq2 : ∀ p ∈ (nw ++ own) ++ own₂, @Ne Nat p.1 Dr := by
              intro p hp
              rcases List.mem_append.mp hp with h | h
              · exact hoq p h
              · exact hoff2 p h _ (.head _)
            repeat' (first | with_reducible ((with_reducible show wpAny _ _ (eval (PySem.Expr.Name _ _) _) _ _ _); ((k_here; (with_reducible show wpAny _ _ (eval _ (envOf _ _ _ _ _)) _ _ _); k_dflt (refine' ld ?k1 ?k2 ?_; (case k1 => k_asm); (case k2 => assumption); k_whole)))) | with_reducible ((with_reducible show wpAny _ _ (subscriptTail _ _ (Value.str _ _) (Value.int _ _)) _ _ _); ((refine item_str (fitsSsize_of (N := 9223372036854775808) (by lia) (by lia) (Int.le_refl _)) (by lia) (by lia) ?_; intro _; (try dsimp only)))) | with_reducible ((with_reducible show wpAny _ _ (call (Value.ref _) _) _ _ _); ((k_here; k_dflt (refine' subst_call ?B ?F ?X ?T ?hk ?hd1 ?hla ?hlb ?N ?_; (case B => k_asm); (case F => k_asm); (case X => k_asm); (case T => k_asm); (case hk => rfl); (case hd1 => ktr_room); (case hla => exact item_small hLy hi); (case hlb => exact item_small hLx hj); (case N => k_asm); intro cv ct h₁ tk₁ F₁ N₁ hcv)))) | walk1)
            · (with_reducible rename Fr g' _ _ _ => F₈)
              (with_reducible rename News g' _ _ _ => N₈)
              have hcv' : cv = costOf (Txt.item y (i : Int)) (Txt.item x (j : Int)) := by rw [hcv]; exact cost_low hLx hLy hj hi
              subst hcv'
              have e := inRow_next x (Txt.item y (i : Int)) j ((i : Int) * 2, (i : Int) * 2, 9223372036854775807, ns)
              have hlt : newR x (Txt.item y (i : Int)) d r ns2 j < mn := by unfold newR; assumption
              rw [← hst, inStep_lt hlt] at e
              clear hlt
              unfold newR at e
              exact LoopStep2.intro (news₂ := (Dr, W.listOf (vs2.set ((j : Int)).toNat _).toArray k2) :: (nw ++ own)) F₈ (news_sub N₈ (fun p hp => by
                rcases List.mem_append.mp hp with h | h
                · exact .tail _ (List.mem_append_right _ h)
                · rcases List.mem_cons.mp h with rfl | h
                  · exact .head _
                  · exact .tail _ (List.mem_append_left _ h))) rfl ⟨_, _, _, _, _, _, _, _, _, rfl, rfl, rfl, mbc, mrow2, ma2, mb2, mm2, rfl, by assumption, (by rw [List.length_set]; exact hnl2), e.symm⟩
            · (with_reducible rename Fr g' _ _ _ => F₈)
              (with_reducible rename News g' _ _ _ => N₈)
              have hcv' : cv = costOf (Txt.item y (i : Int)) (Txt.item x (j : Int)) := by rw [hcv]; exact cost_low hLx hLy hj hi
              subst hcv'
              have e := inRow_next x (Txt.item y (i : Int)) j ((i : Int) * 2, (i : Int) * 2, 9223372036854775807, ns)
              have hlt : ¬ newR x (Txt.item y (i : Int)) d r ns2 j < mn := by unfold newR; assumption
              rw [← hst, inStep_ge hlt] at e
              clear hlt
              unfold newR at e
              exact LoopStep2.intro (news₂ := (Dr, W.listOf (vs2.set ((j : Int)).toNat _).toArray k2) :: (nw ++ own)) F₈ (news_sub N₈ (fun p hp => by
                rcases List.mem_append.mp hp with h | h
                · exact .tail _ (List.mem_append_right _ h)
                · rcases List.mem_cons.mp h with rfl | h
                  · exact .head _
                  · exact .tail _ (List.mem_append_left _ h))) rfl ⟨_, _, _, _, _, _, _, _, _, rfl, rfl, mmn, mbc, mrow2, ma2, mb2, mm2, rfl, by assumption, (by rw [List.length_set]; exact hnl2), e.symm⟩
      all_goals (repeat' walk1)
      · (with_reducible rename Fr g' _ _ _ => F₈)
        (with_reducible rename News g' _ _ _ => N₈)
        have e := loS_of' (a := a3) (b := b3) (by assumption)
        rw [e.1, e.2]
        exact LedStep.intro F₈ N₈ ⟨_, _, rfl, rfl, mm⟩
      · (with_reducible rename Fr h₀ L _ m => F₈)
        (with_reducible rename News h₀ L _ _ => N₈)
        have e := levPure_eq (mc := mc) hab ha2 hb2 hq ha3 hb3
        rw [levRest_nil (.inr (by assumption))] at e
        rw [← e]
        exact hret _ _ _ F₈ N₈
      · (with_reducible rename Fr h₀ L _ m => F₈)
        (with_reducible rename News h₀ L _ _ => N₈)
        have e := levPure_eq (mc := mc) hab ha2 hb2 hq ha3 hb3
        rw [levRest_nil (.inl (by assumption))] at e
        rw [← e]
        exact hret _ _ _ F₈ N₈
end
end Mine
end
section
open PySem PySem.W PySem.Spec PySem.Calls PyProof.Rows Builtin Builtin.ObjectAttr
open PySem.Sem (wp)
namespace Mine
section
variable {M : Model} {A : Around} {R : GenEnd} {Y : Protocol} {n : Nat} {s₀ : Shared} {c : Code} {fs : List Frame} {s : Shared} {env : Env}
  {K : Flow → Sem Fin} {H : Value → Sem Fin} {gd : Bool → Bool} {lv : List Value → List Value}
theorem seg_If {test : Expr} {body orelse : List Stmt} {pos : Pos}
    (h : wpAny M (A.over c fs) (isTrue test env (eval test env)) (fun b s' => Seg M A R Y n s₀ c ((if b = true then execs body env else execs orelse env).wrap K H gd lv) fs s') (fun x s' => Seg M A R Y n s₀ c (H x) fs s') s) :
    Seg M A R Y n s₀ c ((exec (.If test body orelse pos) env).wrap K H gd lv) fs s := by
  rw [PySem.exec_If]
  refine seg_at ?_
  show Seg M A R Y n s₀ c ((isTrue test env (eval test env) >>= fun b => if b = true then execs body env else execs orelse env).wrap K H gd lv) fs s
  rw [Sem.bind_eq_wrap', Sem.wrap_wrap]
  exact seg_wrap h
theorem seg_stmt {st : Stmt} (h : wpAny M (A.over c fs) (exec st env) (fun f s' => Seg M A R Y n s₀ c (K f) fs s') (fun x s' => Seg M A R Y n s₀ c (H x) fs s') s) :
    Seg M A R Y n s₀ c ((exec st env).wrap K H gd lv) fs s := seg_wrap h
theorem seg_For {target iter : Expr} {body orelse : List Stmt} {pos : Pos}
    (h : wpAny M (A.over c fs) (eval iter env) (fun x s₁ => wpAny M (A.over c fs) (pyIter x) (fun it s₂ => ∀ p, Seg M A R Y n s₀ (.forLoop target it body orelse env) (M.den (.forLoop target it body orelse env))
      (.ret (fun r => ((match r with | .ok f => (.pure f : Sem Flow) | .error e => .raise e).onRaise fun (x : Value) => do
        if (← field x 1) == Value.none then unsupported "frame.own-activation:exception-without-traceback"
        setFlight x env.frame).wrap K H gd lv) none (gd false) (lv []) c p [] :: fs) s₂) (fun x s' => Seg M A R Y n s₀ c (H x) fs s') s₁) (fun x s' => Seg M A R Y n s₀ c (H x) fs s') s)
    (hs : ∀ x, foldedSetIterable iter env x = pure x := by intro _; rfl) :
    Seg M A R Y n s₀ c ((exec (.For target iter body orelse pos) env).wrap K H gd lv) fs s := by
  rw [PySem.exec_For]
  refine seg_at ?_
  show Seg M A R Y n s₀ c ((eval iter env >>= fun x => foldedSetIterable iter env x >>= fun x => standAt iter.pos >>= fun _ => holding [x] (pyIter x) >>= fun it => runOwn (.forLoop target it body orelse env) env).wrap K H gd lv) fs s
  rw [Sem.bind_eq_wrap', Sem.wrap_wrap]
  refine seg_wrap (wpAny_mono h (fun x s₁ h₁ => ?_) fun _ _ e => e)
  rw [hs]
  show Seg M A R Y n s₀ c (.at iter.pos fun _ => (holding [x] (pyIter x) >>= fun it => runOwn (.forLoop target it body orelse env) env).wrap K H gd lv) fs s₁
  refine seg_at ?_
  rw [Sem.bind_eq_wrap', Sem.wrap_wrap]
  refine seg_wrap (wpAny_holding (wpAny_mono h₁ (fun it s₂ h₂ => ?_) fun _ _ e => e))
  exact seg_call h₂
end
section
variable {prog : Program} {w : World} {A : Around} {R : GenEnd} {Y : Protocol} {n : Nat} {s₀ : Shared} {fs : List Frame} {s : Shared} {env : Env}
theorem seg_forLoop {target : Expr} {it : Value} {body orelse : List Stmt}
    (h : wpAny (model prog w) (A.over (.forLoop target it body orelse env) fs) (pyNext it) (fun r s₁ => match r with
      | none => Seg (model prog w) A R Y n s₀ (.block orelse env) ((model prog w).den (.block orelse env)) fs s₁
      | some v => wpAny (model prog w) (A.over (.forLoop target it body orelse env) fs) (letOwnedTupleGo target it v) (fun _ s₁' => wpAny (model prog w) (A.over (.forLoop target it body orelse env) fs) (assign target env v) (fun _ s₂ =>
          Seg (model prog w) A R Y n s₀ (.forLoop target it body orelse env) ((execs body env).wrap (fun f => match f with
            | .next | .cont => .pure (.again (.forLoop target it body orelse env))
            | .brk => .pure (.done .next)
            | .ret v => .pure (.done (.ret v))) (fun e => (do noteFrame e env; theTreesLotGoes e : Sem Unit).wrap (fun _ => .raise e) .raise id id) id id) fs s₂) (fun _ _ => False) s₁') (fun _ _ => False) s₁)
      (fun _ _ => False) s) :
    Seg (model prog w) A R Y n s₀ (.forLoop target it body orelse env) ((model prog w).den (.forLoop target it body orelse env)) fs s := by
  show Seg _ A R Y n s₀ _ ((forTurn target it body orelse env).onRaise (fun x => do noteFrame x env; theTreesLotGoes x)) fs s
  unfold forTurn
  rw [Sem.onRaise_eq_wrap]
  refine seg_at ?_
  show Seg _ A R Y n s₀ _ (((pyNext it).onRaise (fun _ => standAt { target.pos with line := 0 }) >>= fun r => _).wrap _ _ _ _) fs s
  rw [Sem.bind_eq_wrap', Sem.wrap_wrap, Sem.onRaise_eq_wrap, Sem.wrap_wrap]
  refine seg_wrap (wpAny_mono h (fun r s₁ h₁ => ?_) fun _ _ e => e.elim)
  cases r with
  | none => exact seg_again rfl h₁
  | some v =>
    show Seg _ A R Y n s₀ _ ((letOwnedTupleGo target it v >>= fun _ => _).wrap _ _ _ _) fs s₁
    rw [Sem.bind_eq_wrap', Sem.wrap_wrap]
    refine seg_wrap (wpAny_mono h₁ (fun _ s₁' h₁' => ?_) fun _ _ e => e.elim)
    show Seg _ A R Y n s₀ _ ((assign target env v >>= fun _ => _).wrap _ _ _ _) fs s₁'
    rw [Sem.bind_eq_wrap', Sem.wrap_wrap]
    refine seg_wrap (wpAny_mono h₁' (fun _ s₂ h₂ => ?_) fun _ _ e => e.elim)
    rw [Sem.bind_eq_wrap', Sem.wrap_wrap]
    rw [Sem.wrap_congr (execs body env) _ _ (K' := fun f => match f with
            | .next | .cont => .pure (.again (.forLoop target it body orelse env))
            | .brk => .pure (.done .next)
            | .ret v => .pure (.done (.ret v))) (H' := (fun e => (do noteFrame e env; theTreesLotGoes e : Sem Unit).wrap (fun _ => .raise e) .raise id id))
        (fun f => by cases f <;> rfl)
        (fun e => by first | exact Sem.bind_eq_wrap _ _ | (show (do noteFrame e env; theTreesLotGoes e : Sem Unit).bind (fun _ => .raise e) = _; rw [Sem.bind_eq_wrap]))]
    exact h₂
theorem seg_block {stmts : List Stmt}
    (h : Seg (model prog w) A R Y n s₀ (.block stmts env) ((execs stmts env).wrap (fun f => .pure (.done f)) (fun e => (do noteFrame e env; theTreesLotGoes e : Sem Unit).wrap (fun _ => .raise e) .raise id id) id id) fs s) :
    Seg (model prog w) A R Y n s₀ (.block stmts env) ((model prog w).den (.block stmts env)) fs s := by
  show Seg _ A R Y n s₀ _ ((execs stmts env).onRaise (fun x => do noteFrame x env; theTreesLotGoes x) >>= fun f => pure (.done f)) fs s
  rw [Sem.onRaise_eq_wrap, Sem.bind_eq_wrap', Sem.wrap_wrap]
  rw [Sem.wrap_congr (execs stmts env) _ _ (K' := fun f => (.pure (.done f) : Sem Fin)) (H' := (fun e => (do noteFrame e env; theTreesLotGoes e : Sem Unit).wrap (fun _ => .raise e) .raise id id))
        (fun f => by rfl)
        (fun e => by first | (rw [Sem.bind_eq_wrap, Sem.wrap_wrap]; rfl) | (show ((do noteFrame e env; theTreesLotGoes e : Sem Unit).bind (fun _ => .raise e)).wrap _ _ _ _ = _; rw [Sem.bind_eq_wrap, Sem.wrap_wrap]; rfl))]
  exact h
end
end Mine
end
section
open PySem PySem.W PySem.Spec PySem.Calls PyProof.Rows Builtin Builtin.ObjectAttr
open PySem.Sem (wp)
namespace Mine
section
variable {prog : Program} {w : World} {A : Around} {E : Value → Shared → Prop} {s : Shared} {K : Frag} {L : Addr} {h₀ : Heap} {m mg mb : Str → Option Value} {news : List (Addr × Obj)} {p : Program} {loose : List Str} {mean : ExcName → Option Value}
theorem gen_def {R : Result → Shared → Prop} {name qual : Str} {params : Arguments} {body : List Stmt} {scope : Scope} {dV kV doc pm cdv ct oc : Value} {an od : Option Addr} {osl : Array (Option Value)} {f : Addr} {args : Args} {binds : List (Str × Value)}
    (F : Fr h₀ L s.heap m) (X₀ : K.In h₀) (N : News h₀ L s.heap news) (T : Top p loose mean mg mb h₀)
    (ho : K.lookup f = some ⟨oc, od, .func (fnOf name qual params body scope dV kV doc pm an cdv ct), osl⟩) (hcd : codeIn K cdv qual = true) (hroom : A.depth < recursionLimit)
    (hbind : BindsTo s (fnOf name qual params body scope dV kV doc pm an cdv ct) args binds) (hloc : ∀ y ∈ binds, scope.names.lookup y.1 = some .local)
    (h : ∀ CL ga oga ocl h₁ tk, Fr h₀ L h₁ m → News h₀ L h₁ ((ga, oga) :: (CL, ocl) :: news) → (∀ p ∈ news, @LT.lt Nat _ p.1 CL) → @LT.lt Nat _ CL ga → @LT.lt Nat _ L CL → h₁.Ns CL (fun y => binds.reverse.lookup y) → h₁.IsGen ga s.gens.size → h₁.objs.size = ga + 1 →
      R (.ok (.ret (.ref ga))) ⟨h₁, s.gens.push (.fresh (.func body (envOf qual scope CL f cdv))), s.drawn, tk, s.os⟩)
    (hco : scope.isCoroutine = false) (hgen : scope.isGenerator = true) (hk : scope.kind = .function)
    (hcell : ∀ x ∈ scope.names, x.2 ≠ .cell) : codeAny (model prog w) A (.call (.ref f) args) R s := by
  refine codeAny_call_generator hroom ((X₀.keeps F.keep) _ _ ho) rfl hco hgen rfl (codeRec_of (X₀.keeps F.keep) hcd) (hbind _ _ _ _ ?_)
  refine wpAny_newFunctionEnv hcell hloc (fun h' hns hsb => ?_) hk
  have hlim : s.heap.NoLimit := T.nolimit.keeps F.keep
  have up : ∀ b o, s.heap.get? b = some o → h'.get? b = some o := fun b o e => hsb.extBut b o (Nat.ne_of_lt (Heap.lt_size e)) (Heap.get?_push_of_some _ e)
  have hz : h'.objs.size = s.heap.objs.size + 1 := by
    have := hsb.1
    rw [Heap.size_push] at this
    exact this
  have hL : L < s.heap.objs.size := F.ns.lt
  have fr := fresh_h0 F
  obtain ⟨ocl, es, ep, hcl, r⟩ := id hns
  refine ⟨hlim.fresh _ hsb, ?_⟩
  dsimp only
  have hG : (h'.push { cls := .type "generator", data := .fields #[.int s.gens.size 0, .str name (s.toks + binds.length), .str qual (s.toks + binds.length + 1)] }).get? h'.objs.size = some { cls := .type "generator", data := .fields #[.int s.gens.size 0, .str name (s.toks + binds.length), .str qual (s.toks + binds.length + 1)] } := Heap.get?_push_size _ rfl
  refine h s.heap.objs.size h'.objs.size _ ocl _ _ (F.keeps fun b o e => Heap.get?_push_of_some _ (up b o e)) (news_cons (news_cons (fun p hp => ⟨Heap.get?_push_of_some _ (up _ _ (N p hp).1), (N p hp).2⟩) (Heap.get?_push_of_some _ hcl) (Ne.symm (Nat.ne_of_lt hL)) (fr _ (Nat.le_refl _))) hG (by rw [hz]; exact Ne.symm (Nat.ne_of_lt (Nat.lt_succ_of_lt hL))) (fr _ (by rw [hz]; exact Nat.le_succ _))) (fun p hp => Heap.lt_size (N p hp).1) (by rw [hz]; exact Nat.lt_succ_self _) hL (hns.push _) ⟨_, _, _, hG, rfl, rfl, rfl⟩ (Heap.size_push ..)
theorem letGo_gen {elts : List Expr} {x1} {pos : Pos} {ga T : Addr} {g : Nat} {Q : Unit → Shared → Prop} (hg : s.heap.IsGen ga g) (hQ : Q () s) :
    wpAny (model prog w) A (letOwnedTupleGo (.Tuple elts x1 pos) (.ref ga) (.ref T)) Q E s := by
  obtain ⟨o, nm, qn, ho, hc, hd, hsl⟩ := hg
  unfold letOwnedTupleGo
  refine wpAny_bind (wpAny_load ho ?_)
  rw [hc, hd]
  show wpAny _ A (if (["enumerate", "zip", "dict_itemiterator", "dict_reverseitemiterator", "odict_iterator", "itertools.zip_longest", "itertools.pairwise"].contains "generator" &&
      (#[.int g 0, nm, qn] : Array Value)[0]? == some (rawInt T)) = true then _ else _) Q E s
  rw [if_neg (by
    intro h
    rw [show (["enumerate", "zip", "dict_itemiterator", "dict_reverseitemiterator", "odict_iterator", "itertools.zip_longest", "itertools.pairwise"].contains "generator") = false from by decide, Bool.false_and] at h
    cases h)]
  exact wpAny_pure hQ
end
noncomputable def EscY (h₀ : Heap) (text : Str) (CL ga : Addr) : Protocol := fun m s₀ v s kap => ∃ i T c t1 t2, ∃ fp : List Addr, text.cps[i]? = some c ∧ m + 1 + i = text.cps.size ∧ v = .ref T ∧ s.heap.IsTuple T #[.int (i : Nat) t1, .str ⟨#[c]⟩ t2] ∧
  (∃ h tk, s = { s₀ with heap := h, toks := tk }) ∧ (∀ b o, b ∉ fp → s₀.heap.get? b = some o → s.heap.get? b = some o) ∧ (∀ b ∈ fp, b = CL ∨ @LT.lt Nat _ ga b) ∧ (∀ b ∈ fp, ∃ o, s.heap.get? b = some o) ∧
  ∀ s'', (∀ b o, h₀.get? b = some o → s''.heap.get? b = some o) → (∀ b ∈ fp, ∀ o, s.heap.get? b = some o → s''.heap.get? b = some o) → kap (.send .none) s''
noncomputable def EscP (CL ga : Addr) (s₀ s : Shared) : Prop := ∃ fp : List Addr, (∃ h tk, s = { s₀ with heap := h, toks := tk }) ∧ (∀ b o, b ∉ fp → s₀.heap.get? b = some o → s.heap.get? b = some o) ∧ (∀ b ∈ fp, b = CL ∨ @LT.lt Nat _ ga b)
noncomputable def EscAt (prog : Program) (w : World) (A : Around) (h₀ : Heap) (text : Str) (CL ga : Addr) (i : Nat) (fp : List Addr) (gs : GenState) (h : Heap) : Prop :=
  ∀ s'', (∀ b o, h₀.get? b = some o → s''.heap.get? b = some o) → (∀ b ∈ fp, ∀ o, h.get? b = some o → s''.heap.get? b = some o) → gs.Goes (model prog w) A.in1 (fun n s₀ r s₁ => r = .ok (.ret .none) ∧ (n = 0 ∧ EscP CL ga s₀ s₁)) (EscY h₀ text CL ga) (text.cps.size - i) (.send .none) s''
end Mine
namespace Mine
noncomputable def EscInv (h₀ : Heap) (text : Str) (tt : Tok) (CL e it : Addr) (n : Nat) (s₀ s : Shared) : Prop := n ≤ text.cps.size ∧ (∃ h tk, s = { s₀ with heap := h, toks := tk }) ∧ (∀ b o, b ∉ [CL, e, it] → s₀.heap.get? b = some o → s.heap.get? b = some o) ∧
  (∃ m₂, s.heap.Ns CL m₂ ∧ m₂ (Str.ofString "escape") = some (.bool false)) ∧ (∃ old, IsEnum s.heap e it ((text.cps.size - n : Nat) : Int) old) ∧ s.heap.IsStrIter it "str_ascii_iterator" text tt (text.cps.size - n) ∧ (∀ b o, h₀.get? b = some o → s.heap.get? b = some o)
theorem sign_eqB (c : Nat) : ((⟨#[c]⟩ : Str) == Str.ofString "\\") = (c == 92) := by
  have e : Str.ofString "\\" = ⟨#[92]⟩ := by decide +kernel
  rw [e]
  by_cases h : c = 92
  · subst h; decide +kernel
  · have : ((⟨#[c]⟩ : Str) == ⟨#[92]⟩) = false := beq_eq_false_iff_ne.mpr (fun e => h (by injection e with e; simpa using e))
    rw [this]; simp [h]
end Mine
namespace Mine
theorem seg_from {M : Model} {A : Around} {R : GenEnd} {Y : Protocol} {n : Nat} {s₀ s : Shared} {c : Code} {t : Sem Fin} {fs : List Frame} {P : Nat → Shared → Shared → Prop} (h : P n s₀ s) (k : ∀ n s₀ s, P n s₀ s → Seg M A R Y n s₀ c t fs s) : Seg M A R Y n s₀ c t fs s := k n s₀ s h
end Mine
end
example : True ∧ True := by first | (w_top off; walk1; done) | exact ⟨trivial, trivial⟩
section
open PySem PySem.W PySem.Spec PySem.Calls PyProof.Rows Builtin Builtin.ObjectAttr
open PyProof.Rows.LCg (lst lst_snoc)
example : (fun (_ : OpenLaw) (_ : Params → Frag) => True) PySem.Challenge.rw_tc0044_01 Mine.hd.heap_39 := by k_fill; trivial
namespace Mine
section
variable {w : World} {pT : Program} {loose : List Str} {mean : ExcName → Option Value} {mg mb : Str → Option Value}
theorem esc_call {text : Str} {tt : Tok} {nw : List (Addr × Obj)} {dp un : Nat} {gd : Option (List Code)} {cn : Str} {cs : Scope} {a : Addr} {ccd : Value} {cl : List (Str × Addr)} {outer : List Env} {A₀ : Around} {base h₀ : Heap} {L : Addr} {m : Str → Option Value} {s : Shared} {Q E : Value → Shared → Prop}
    (B : Below A₀ base outer h₀) (F : Fr h₀ L s.heap m) (X : (Mine.hd.heap_39 w.params).In h₀) (T : Top pT loose mean mg mb h₀) (hk : cs.kind = .function) (hd1 : dp + 12 < recursionLimit) (N : News h₀ L s.heap nw) (ha : text.cps.all (· < 128) = true) (hsz : text.length ≤ 1000) (hnb : ∀ c ∈ text.cps.toList, c ≠ 92)
    (hret : ∀ CL ga oga ocl gs h₁ tk, Fr h₀ L h₁ m → News h₀ L h₁ ((ga, oga) :: (CL, ocl) :: nw) → (∀ p ∈ nw, @LT.lt Nat _ p.1 CL) → @LT.lt Nat _ CL ga → @LT.lt Nat _ L CL → h₁.IsGen ga s.gens.size →
      EscAt PySem.Challenge.pw_tc0044_01 w (ktrTop dp un gd cn cs L a ccd cl outer) h₀ text CL ga 0 [CL, ga] gs h₁ → Q (.ref ga) ⟨h₁, s.gens.push gs, s.drawn, tk, s.os⟩) :
    wpAny (model PySem.Challenge.pw_tc0044_01 w) (ktrTop dp un gd cn cs L a ccd cl outer) (call (.ref 28) [.str text tt]) Q E s := by
  refine wpAny_call ?_
  k_dflt (refine' gen_def (binds := [(Str.ofString "addr", .str text tt)]) ?k2 ?k3 ?k4 ?k5 ?k6 ?k7 ?k8 ?k9 ?kB ?_ ?c2 ?c3 ?c4 ?c5; (case k2 => k_asm); (case k3 => k_asm); (case k4 => k_asm); (case k5 => k_asm); (case k6 => k_is); (case k7 => k_is); (case k8 => ktr_room); (case k9 => exact BindsTo.of_eq rfl); (case c5 => decide); (case kB => exact locs rfl); (case c2 => exact rfl); (case c3 => exact rfl); (case c4 => exact rfl); k_whole; intro CL ga oga ocl h₁ tk F₁ N₁ l1 l2 l3 hns hG hz; (try dsimp only))
  refine hret CL ga oga ocl _ h₁ tk F₁ N₁ l1 l2 l3 hG ?_
  intro s'' hk hfp
  have hns2 : s''.heap.Ns CL (fun y => if y = Str.ofString "addr" then some (.str text tt) else none) := by
    have e : (fun y : Str => ([(Str.ofString "addr", Value.str text tt)] : List (Str × Value)).reverse.lookup y) = fun y => if y = Str.ofString "addr" then some (.str text tt) else none := by
      funext y
      by_cases hy : y = Str.ofString "addr"
      · subst hy; simp
      · have : (y == Str.ofString "addr") = false := by simpa using hy
        simp [List.lookup, this, hy]
    rw [e] at hns
    exact hns.at' fun o e => hfp CL (by simp) o e
  have FC : Fr h₀ CL s''.heap _ := ⟨hns2, hk, Nat.le_trans F₁.above (Nat.le_of_lt l3)⟩
  have hgas : @LT.lt Nat _ ga s''.heap.objs.size := Heap.lt_size (hfp ga (by simp) _ (N₁ _ (.head _)).1)
  have hab : h₀.objs.size ≤ CL := Nat.le_trans F₁.above (Nat.le_of_lt l3)
  clear F₁ N₁ F N hret
  refine ⟨rfl, ?_⟩
  refine seg_func ?_
  refine seg_execs_cons (seg_stmt ?_)
  iterate 2 walk1
  refine wpAny_storeName_local rfl FC.ns (fun h₂ hn₂ hs₂ => ?_) rfl
  have F₂ := FC.set hn₂ hs₂
  clear FC
  refine seg_execs_cons (seg_stmt ?_)
  iterate 2 walk1
  refine wpAny_storeName_local rfl F₂.ns (fun h₃ hn₃ hs₃ => ?_) rfl
  have F₃ := F₂.set hn₃ hs₃
  clear F₂
  refine seg_execs_cons (seg_For ?_)
  repeat walk1
  refine call_enumerate_str fun h₅ hE hI hz5 hk5 => ?_
  refine wpAny_pyIter_enum hE ?_
  intro pp
  have hstr : strIterType text = "str_ascii_iterator" := by unfold strIterType; rw [if_pos ha]
  rw [hstr] at hI
  replace hs₂ : Heap.SameBut CL s''.heap h₂ := hs₂
  replace hs₃ : Heap.SameBut CL h₂ h₃ := hs₃
  have hCL3 : CL < h₃.objs.size := F₃.ns.lt
  have hga3 : @LT.lt Nat _ ga h₃.objs.size := by rw [hs₃.1, hs₂.1]; exact hgas
  have hinv : ∀ tk, EscInv h₀ text tt CL (h₃.objs.size + 1) h₃.objs.size (text.cps.size - 0) s'' ⟨h₅, s''.gens, s''.drawn, tk, s''.os⟩ := fun tk => by
    have e0 : text.cps.size - (text.cps.size - 0) = 0 := Nat.sub_self _
    refine ⟨Nat.le_refl _, ⟨_, _, rfl⟩, fun b o hb e => ?_, ⟨_, hn₃.keeps hk5, rfl⟩, ⟨_, by rw [e0]; exact hE⟩, by rw [e0]; exact hI, fun b o e => hk5 _ _ (F₃.keep _ _ e)⟩
    have hbC : b ≠ CL := fun q => hb (by simp [q])
    exact hk5 _ _ (hs₃.extBut _ _ hbC (hs₂.extBut _ _ hbC e))
  refine seg_from (hinv _) ?_
  have hei : @Ne Nat (h₃.objs.size + 1) h₃.objs.size := Nat.succ_ne_self _
  have hCe : @Ne Nat CL (h₃.objs.size + 1) := Nat.ne_of_lt (Nat.lt_succ_of_lt hCL3)
  have hCi : @Ne Nat CL h₃.objs.size := Nat.ne_of_lt hCL3
  have hCe2 : @LT.lt Nat _ CL (h₃.objs.size + 1) := Nat.lt_succ_of_lt hCL3
  have hCi2 : @LT.lt Nat _ CL h₃.objs.size := hCL3
  have hge : @LT.lt Nat _ ga (h₃.objs.size + 1) := Nat.lt_succ_of_lt hga3
  generalize h₃.objs.size + 1 = e at hei hCe hge hCe2 ⊢
  generalize h₃.objs.size = it at hei hCi hga3 hCi2 ⊢
  clear hinv hI hE hz5 hk5 hs₂ hs₃ hn₂ hn₃ F₃ hfp hk hns2 hns hCL3
  have W := fun (A' : Around) (hA : A'.handled = none) => WalksT.enumerateD (prog := PySem.Challenge.pw_tc0044_01) (w := w) (A := A') (Draws.strAscii (A := A'.in1) hA it text tt) e hei (by simpa using hei) (by simp)
  intro n
  induction n with
  | zero =>
    rintro s₀ s₁ ⟨hn, ⟨H, tk1, rfl⟩, hoff, ⟨m₂, hm₂, hesc⟩, ⟨old, hE⟩, hI, hkeep⟩
    have e0 : text.cps.size - 0 = text.cps.size := rfl
    rw [e0] at hE hI
    refine seg_forLoop ?_
    refine (W _ rfl).done _ _ _ ⟨⟨_, hE⟩, hI⟩ fun h' tk' hk' => ?_
    refine seg_block (seg_execs_nil ?_)
    refine seg_leaf (r := .ok .next) ?_
    have hm₃ : h'.Ns CL m₂ := hm₂.at' fun o x => hk' _ _ (by simp [hCe, hCi]) x
    have FZ : Fr h₀ CL h' m₂ := ⟨hm₃, fun b o x => hk' _ _ (by
      have : b < CL := Nat.lt_of_lt_of_le (Heap.lt_size x) hab
      simp only [List.mem_cons, List.not_mem_nil, or_false]
      rintro (q | q)
      · rw [q] at this; exact Nat.lt_asymm this hCe2
      · rw [q] at this; exact Nat.lt_asymm this hCi2) (hkeep _ _ x), hab⟩
    refine seg_execs_cons (seg_If ?_)
    repeat (first | with_reducible ((with_reducible show wpAny _ _ (eval (PySem.Expr.Name _ _) _) _ _ _); ((k_here; (with_reducible show wpAny _ _ (eval _ (envOf _ _ _ _ _)) _ _ _); k_dflt (refine' ld ?k1 ?k2 ?_; (case k1 => k_asm); (case k2 => assumption); k_whole)))) | walk1)
    rw [if_neg (by decide)]
    refine seg_execs_nil (seg_execs_nil ?_)
    refine seg_end (.ok (.ret .none)) ⟨rfl, rfl, [CL, e, it], ⟨_, _, rfl⟩, fun b o hb x => hk' _ _ (fun q => hb (.tail _ q)) (hoff b o hb x), ?_⟩
    simp only [List.mem_cons, List.not_mem_nil, or_false]
    rintro b (rfl | rfl | rfl)
    · exact .inl rfl
    · exact .inr hge
    · exact .inr hga3
  | succ n ih =>
    rintro s₀ s₁ ⟨hn, ⟨H, tk1, rfl⟩, hoff, ⟨m₂, hm₂, hesc⟩, ⟨old, hE⟩, hI, hkeep⟩
    refine seg_forLoop ?_
    refine (W _ rfl).item (text.cps.size - (n + 1)) _ _ _ (at_lt hn) ⟨⟨_, hE⟩, hI⟩ fun T vals h' tk' hPt hTs hT hM hk' => ?_
    obtain ⟨t1, v, ⟨c, t2, hc, rfl⟩, rfl⟩ := hPt
    dsimp only
    refine (W _ rfl).go _ _ _ _ T _ _ _ hM fun h'' hst'' hk'' => ?_
    have hCfp : CL ∉ [e, it] := by simp [hCe, hCi]
    have hT'' : h''.IsTuple T #[.int ((text.cps.size - (n + 1) : Nat) : Int) t1, .str ⟨#[c]⟩ t2] := hT.at fun o x => hk'' _ _ ((W _ (rfl : (ktrTop dp un gd cn cs L a ccd cl outer).handled = none)).apart _ _ _ hM) x
    refine kcp_assign (m := m₂) rfl hT'' rfl rfl rfl ((hm₂.at' fun o x => hk' _ _ hCfp x).at' fun o x => hk'' _ _ hCfp x) fun h4 tk4 hn4 hs4 => ?_
    replace hs4 : ∀ c o, c ≠ CL → h''.get? c = some o → h4.get? c = some o := hs4
    have up : ∀ b o, b ∉ [CL, e, it] → H.get? b = some o → h4.get? b = some o := fun b o hb x => hs4 _ _ (fun q => hb (by simp [q])) (hk'' _ _ (fun q => hb (.tail _ q)) (hk' _ _ (fun q => hb (.tail _ q)) x))
    have hb0 : ∀ b o, h₀.get? b = some o → b ∉ [CL, e, it] := fun b o x => by
      have : b < CL := Nat.lt_of_lt_of_le (Heap.lt_size x) hab
      simp only [List.mem_cons, List.not_mem_nil, or_false]
      rintro (q | q | q)
      · rw [q] at this; exact Nat.lt_irrefl _ this
      · rw [q] at this; exact Nat.lt_asymm this hCe2
      · rw [q] at this; exact Nat.lt_asymm this hCi2
    have FZ : Fr h₀ CL h4 _ := ⟨hn4, fun b o x => up _ _ (hb0 b o x) (hkeep _ _ x), hab⟩
    have hst4 : (∃ old, IsEnum h4 e it ((text.cps.size - (n + 1) + 1 : Nat) : Int) old) ∧ h4.IsStrIter it "str_ascii_iterator" text tt (text.cps.size - (n + 1) + 1) := (W _ (rfl : (ktrTop dp un gd cn cs L a ccd cl outer).handled = none)).frame _ _ _ hst'' fun b hb o x => hs4 _ _ (fun q => hCfp (q ▸ hb)) x
    have hc92 : (c == 92) = false := by
      have := hnb c (by rw [← Array.getElem?_toList] at hc; exact List.mem_of_getElem? hc)
      simpa using this
    clear hk' hk'' hs4 hn4 hst'' hM hT'' hT W
    refine seg_execs_cons (seg_If ?_)
    repeat (first | with_reducible ((with_reducible show wpAny _ _ (eval (PySem.Expr.Name _ _) _) _ _ _); ((k_here; (with_reducible show wpAny _ _ (eval _ (envOf _ _ _ _ _)) _ _ _); k_dflt (refine' ld ?k1 ?k2 ?_; (case k1 => k_asm); (case k2 => assumption); k_whole)))) | walk1)
    rw [if_neg (by decide)]
    refine seg_execs_cons (seg_If ?_)
    repeat walk1
    rw [sign_eqB, hc92, if_neg (by decide)]
    refine seg_execs_cons (seg_Expr_Yield rfl rfl rfl ?_)
    iterate 6 walk1
    refine wpAny_newTuple ?_ (by size_fits)
    dsimp only
    intro kap hkap
    have en := at_up hn
    rw [en] at hst4
    obtain ⟨⟨old4, hE4⟩, hI4⟩ := hst4
    obtain ⟨oC, es4, ep4, hC4, r4⟩ := FZ.ns
    obtain ⟨oI, hoI, r5⟩ := hI4
    refine ⟨text.cps.size - (n + 1), _, c, t1, t2, [CL, e, it], hc, Nat.add_sub_cancel' hn, rfl, ⟨_, Heap.get?_push_size _ rfl, rfl, _, rfl⟩, ⟨_, _, rfl⟩, fun b o hb x => Heap.get?_push_of_some _ (up b o hb (hoff b o hb x)), ?_, ?_, ?_⟩
    · simp only [List.mem_cons, List.not_mem_nil, or_false]
      rintro b (rfl | rfl | rfl)
      · exact .inl rfl
      · exact .inr hge
      · exact .inr hga3
    · simp only [List.mem_cons, List.not_mem_nil, or_false]
      rintro b (rfl | rfl | rfl)
      · exact ⟨_, Heap.get?_push_of_some _ hC4⟩
      · exact ⟨_, Heap.get?_push_of_some _ hE4⟩
      · exact ⟨_, Heap.get?_push_of_some _ hoI⟩
    · intro s2 hk2 hf2
      refine hkap .none s2 ?_
      refine seg_again rfl (ih s2 s2 ⟨Nat.le_of_succ_le hn, ⟨_, _, rfl⟩, fun _ _ _ x => x, ⟨_, ⟨oC, es4, ep4, hf2 CL (by simp) _ (Heap.get?_push_of_some _ hC4), r4⟩, hesc⟩, ⟨old4, hf2 e (by simp) _ (Heap.get?_push_of_some _ hE4)⟩, ⟨oI, hf2 it (by simp) _ (Heap.get?_push_of_some _ hoI), r5⟩, hk2⟩)
end
end Mine
end
section
open PySem PySem.W PySem.Spec PySem.Calls PyProof.Rows Builtin Builtin.ObjectAttr
namespace Mine
noncomputable def Stop (P : Prop) : Prop := P
theorem Stop.out {P : Prop} (h : Stop P) : P := h
theorem Stop.mk {P : Prop} (h : P) : Stop P := h
inductive GStep (h₀ : Heap) (L CL : Addr) (own : List (Addr × Obj)) (J : (Str → Option Value) → List (Addr × Obj) → Prop) (s' : Shared) (f : Flow) (s₃ : Shared) : Prop
  | mk (h1 : (f = .next ∨ f = .cont)) h₃ tk₃ m₃ news₃ (h2 : s₃ = { s' with heap := h₃, toks := tk₃ }) (h3 : Fr h₀ L h₃ m₃) (h4 : News h₀ L h₃ (news₃ ++ own)) (h5 : (∀ p ∈ news₃, @LT.lt Nat _ p.1 CL)) (h6 : J m₃ news₃) : GStep h₀ L CL own J s' f s₃
section
variable {prog : Program} {w : World} {A : Around} {E : Value → Shared → Prop} {s : Shared} {env : Env} {h₀ : Heap}
inductive GenInv (prog : Program) (w : World) (A : Around) (h₀ : Heap) (L : Addr) (text : Str) (CL ga : Addr) (g : Nat) (G0 : Array GenState) (d : Drawn) (os : OsState) (J : Nat → (Str → Option Value) → List (Addr × Obj) → Prop) (k : Nat) (s' : Shared) : Prop
  | mk (h' : Heap) (tk : Nat) (m' : Str → Option Value) (news' : List (Addr × Obj)) (i : Nat) (gsi : GenState) (fp : List Addr) (h1 : s' = ⟨h', G0.setIfInBounds g gsi, d, tk, os⟩) (h2 : Fr h₀ L h' m') (h3 : News h₀ L h' news') (h4 : ∀ p ∈ news', @LT.lt Nat _ p.1 CL) (h5 : h'.IsGen ga g) (h6 : EscAt prog w A h₀ text CL ga i fp gsi h')
      (h7 : J i m' news') (h8 : i ≤ text.cps.size) (h9 : k = text.cps.size + 1 - i) : GenInv prog w A h₀ L text CL ga g G0 d os J k s'
inductive GenSrc (prog : Program) (w : World) (A : Around) (E : Value → Shared → Prop) (env : Env) (h₀ : Heap) (xi xv : Str) (body : List Stmt) (Q : Flow → Shared → Prop) (xv' : Value) (s₁ : Shared) : Prop
  | mk (text : Str) (CL ga : Addr) (oga ocl : Obj) (g : Nat) (gs : GenState) (m : Str → Option Value) (news : List (Addr × Obj)) (J : Nat → (Str → Option Value) → List (Addr × Obj) → Prop) (h1 : xv' = .ref ga) (h2 : Fr h₀ env.locals s₁.heap m) (h3 : News h₀ env.locals s₁.heap ((ga, oga) :: (CL, ocl) :: news)) (h4 : (∀ p ∈ news, @LT.lt Nat _ p.1 CL)) (h5 : @LT.lt Nat _ CL ga) (h6 : @LT.lt Nat _ env.locals CL) (h7 : s₁.heap.IsGen ga g) (h8 : s₁.gens[g]? = some gs) (h9 : EscAt prog w A h₀ text CL ga 0 [CL, ga] gs s₁.heap) (h10 : J 0 m news) (h11 : (∀ i c t1 t2 m₁ news₁ own gs' h₁ tk₁, text.cps[i]? = some c → J i m₁ news₁ → (∀ p ∈ news₁, @LT.lt Nat _ p.1 CL) → (∀ p ∈ own, @LE.le Nat _ CL p.1) → Fr h₀ env.locals h₁ (fun y => if y = xv then some (.str ⟨#[c]⟩ t2) else if y = xi then some (.int (i : Nat) t1) else m₁ y) → News h₀ env.locals h₁ (news₁ ++ own) → wpAny (model prog w) A (execs body env) (GStep h₀ env.locals CL own (J (i + 1)) ⟨h₁, gs', s₁.drawn, tk₁, s₁.os⟩) E ⟨h₁, gs', s₁.drawn, tk₁, s₁.os⟩)) (h12 : (∀ m' news' h' tk, J text.cps.size m' news' → Fr h₀ env.locals h' m' → News h₀ env.locals h' news' → Q .next ⟨h', s₁.gens.setIfInBounds g .finished, s₁.drawn, tk, s₁.os⟩)) : GenSrc prog w A E env h₀ xi xv body Q xv' s₁
theorem For_gen {xi xv : Str} {pi pv pt pos : Pos} {x1 : Nat} {iter : Expr} {body : List Stmt} {Q : Flow → Shared → Prop} (hh : A.handled = none) (hroom : A.depth < recursionLimit) (hl : h₀.NoLimit) (hxi : env.kindOf xi = some .local) (hxv : env.kindOf xv = some .local)
    (hp : (env.scope.kind == .class || (env.scope.kind == .module && env.locals != env.globals)) = false)
    (h : wpAny (model prog w) A (eval iter env) (fun xv' s₁ => Stop (GenSrc prog w A E env h₀ xi xv body Q xv' s₁)) E s)
    (hs : ∀ x, foldedSetIterable iter env x = pure x := by intro _; rfl) (hE : PassesOwn (model prog w) A env E := by passes_own) :
    wpAny (model prog w) A (exec (.For (.Tuple [.Name xi pi, .Name xv pv] x1 pt) iter body [] pos) env) Q E s := by
  refine wpAny_For (wpAny_mono h (fun xv' s₁ h₁ => ?_) fun _ _ e => e) hs
  obtain ⟨text, CL, ga, oga, ocl, g, gs, m, news, J, rfl, F, N, hnews, hCg, hLC, hG, hgs, hat, h0, step, hQ⟩ := h₁.out
  obtain ⟨H0, G0, d, tk0, os⟩ := s₁
  refine wpAny_pyIter_gen hG ?_
  have hg : g < G0.size := (Array.getElem?_eq_some_iff.mp hgs).1
  have hset : G0.setIfInBounds g gs = G0 := by
    apply Array.ext_getElem?
    intro j
    rw [Array.getElem?_setIfInBounds]
    split
    · rename_i hj
      subst hj
      exact hgs.symm
    · rfl
  refine codeAny_forLoop_any
    (GenInv prog w A h₀ env.locals text CL ga g G0 d os J) ?_ (text.cps.size + 1)
    ⟨H0, tk0, m, news, 0, gs, [CL, ga], by rw [hset], F, news_sub N (fun q hq => .tail _ (.tail _ hq)), hnews, hG, hat, h0, Nat.zero_le _, rfl⟩
  rintro k s' ⟨H, tk, m', news', i, gsi, fp, rfl, F', N', hnews', hG', hat', hJ, hi, rfl⟩
  have hab := F'.above
  have hCL0 : ∀ b, b = CL ∨ @LT.lt Nat _ ga b → h₀.get? b = none ∧ b ≠ env.locals ∧ @LE.le Nat _ CL b := fun b hb => by
    have h1 : @LE.le Nat _ CL b := by
      rcases hb with rfl | hb
      · exact Nat.le_refl _
      · exact Nat.le_of_lt (Nat.lt_trans hCg hb)
    have h2 : @LT.lt Nat _ env.locals b := Nat.lt_of_lt_of_le hLC h1
    refine ⟨?_, Nat.ne_of_gt h2, h1⟩
    cases z : h₀.get? b with
    | none => rfl
    | some o => exact absurd (Nat.lt_of_lt_of_le (Heap.lt_size z) (Nat.le_trans hab (Nat.le_of_lt h2))) (Nat.lt_irrefl _)
  have hgaL : ga ≠ env.locals := Nat.ne_of_gt (Nat.lt_trans hLC hCg)
  have hga0 : h₀.get? ga = none := by
    cases z : h₀.get? ga with
    | none => rfl
    | some o => exact absurd (Nat.lt_of_lt_of_le (Heap.lt_size z) (Nat.le_trans hab (Nat.le_of_lt (Nat.lt_trans hLC hCg)))) (Nat.lt_irrefl _)
  have keepF : ∀ (h' : Heap) (fp : List Addr), (∀ b ∈ fp, b = CL ∨ @LT.lt Nat _ ga b) → (∀ b o, b ∉ fp → H.get? b = some o → h'.get? b = some o) → Fr h₀ env.locals h' m' ∧ News h₀ env.locals h' news' ∧ h'.IsGen ga g := fun h' fp hfp hk => by
    refine ⟨⟨F'.ns.at' fun o e => hk _ o (fun q => (hCL0 _ (hfp _ q)).2.1 rfl) e, fun b o e => hk b o (fun q => by rw [(hCL0 _ (hfp _ q)).1] at e; cases e) (F'.keep b o e), F'.above⟩, fun p hp' => ⟨hk _ _ (fun q => absurd (hCL0 _ (hfp _ q)).2.2 (Nat.not_le.mpr (hnews' p hp'))) (N' p hp').1, (N' p hp').2⟩, ?_⟩
    obtain ⟨o, nm, qn, ho, r⟩ := hG'
    refine ⟨o, nm, qn, hk _ _ (fun q => ?_) ho, r⟩
    rcases hfp _ q with q | q
    · have q' : @Eq Nat ga CL := q
      lia
    · exact Nat.lt_irrefl _ q
  have hsz : ∀ x, (G0.setIfInBounds g gsi).setIfInBounds g x = G0.setIfInBounds g x := fun x => by
    apply Array.ext_getElem?
    intro j
    simp only [Array.getElem?_setIfInBounds, Array.size_setIfInBounds]
    split <;> simp_all
  have hgsi : (G0.setIfInBounds g gsi)[g]? = some gsi := by rw [Array.getElem?_setIfInBounds]; simp [hg]
  refine wpAny_pyNext_gen (n := text.cps.size - i) (Y := EscY h₀ text CL ga) (P := fun n s₀ s₁ => n = 0 ∧ EscP CL ga s₀ s₁) hh (hl.keeps F'.keep) hroom hG' hgsi (hat' _ F'.keep fun _ _ _ e => e) (fun v s₂ gs' hY => ?_) (fun s₂ hP h' hk' => ?_)
  · obtain ⟨i', T, c, t1, t2, fp', hc, hi', rfl, hT, ⟨h2, tk2, rfl⟩, hoff, hfp, hlive, hkap⟩ := hY
    obtain ⟨F2, N2, G2⟩ := keepF h2 fp' hfp hoff
    cases hn : text.cps.size - i with
    | zero =>
      rw [hn] at hkap
      exact (hkap ⟨h2, (G0.setIfInBounds g gsi).setIfInBounds g .running, d, tk2, os⟩ F2.keep fun _ _ _ e => e).elim
    | succ n =>
      rw [hn] at hkap hi'
      have hii : i' = i := at_same hn hi'
      subst hii
      have hlt : i' < text.cps.size := Nat.lt_of_sub_ne_zero (hn ▸ Nat.succ_ne_zero n)
      show wpAny _ _ _ _ _ ⟨h2, ((G0.setIfInBounds g gsi).setIfInBounds g .running).setIfInBounds g gs', d, tk2, os⟩
      rw [hsz, show (G0.setIfInBounds g GenState.running).setIfInBounds g gs' = G0.setIfInBounds g gs' by
        apply Array.ext_getElem?
        intro j
        simp only [Array.getElem?_setIfInBounds, Array.size_setIfInBounds]
        split <;> simp_all]
      refine letGo_gen G2 ?_
      refine kcp_assign hh hT hxi hxv hp F2.ns fun h4 tk4 hn4 hs4 => ?_
      have F4 : Fr h₀ env.locals h4 _ := ⟨hn4, fun b o e => hs4 b o (fun q => by rw [q, Heap.get?_none_of_le hab] at e; cases e) (F2.keep b o e), hab⟩
      have hLf : env.locals ∉ ga :: fp' := fun q => by
        rcases List.mem_cons.mp q with q | q
        · exact hgaL q.symm
        · exact (hCL0 _ (hfp _ q)).2.1 rfl
      have N4 : News h₀ env.locals h4 (news' ++ ownOf h₀ (ga :: fp') h4) := fun p hp' => by
        rcases List.mem_append.mp hp' with hp' | hp'
        · exact ⟨hs4 _ _ (N2 p hp').2.1 (N2 p hp').1, (N2 p hp').2⟩
        · exact news_ownOf hLf p hp'
      have hown : ∀ p ∈ ownOf h₀ (ga :: fp') h4, @LE.le Nat _ CL p.1 := fun p hp' => by
        rcases List.mem_cons.mp (ownOf_sub p hp') with q | q
        · rw [q]; exact Nat.le_of_lt hCg
        · exact (hCL0 _ (hfp _ q)).2.2
      refine wpAny_mono (step i' c t1 t2 m' news' _ (G0.setIfInBounds g gs') h4 tk4 hc hJ hnews' hown F4 N4) (fun f s₃ h₃ => ?_) hE
      obtain ⟨hf, h5, tk5, m5, news5, rfl, F5, N5, hnews5, hJ5⟩ := h₃
      have fin : ∃ mm, mm < text.cps.size + 1 - i' ∧ GenInv prog w A h₀ env.locals text CL ga g G0 d os J mm ⟨h5, G0.setIfInBounds g gs', d, tk5, os⟩ := by
        refine ⟨text.cps.size + 1 - (i' + 1), turn_lt (Nat.le_of_lt hlt), h5, tk5, m5, news5, i' + 1, gs', fp', rfl, F5, news_sub N5 (fun q hq => List.mem_append_left _ hq), hnews5, ?_, ?_, hJ5, hlt, rfl⟩
        · obtain ⟨o, nm, qn, ho, r⟩ := G2
          exact ⟨o, nm, qn, (N5 (ga, o) (List.mem_append_right _ (mem_ownOf (List.mem_cons_self ..) hga0 (hs4 _ _ hgaL ho)))).1, r⟩
        · intro s5 hk5 hf5
          have e : text.cps.size - (i' + 1) = n := by rw [Nat.sub_add_eq, hn]; rfl
          rw [e]
          refine hkap s5 hk5 fun b hb o ho => hf5 b hb o ?_
          exact (N5 (b, o) (List.mem_append_right _ (mem_ownOf (List.mem_cons_of_mem _ hb) (hCL0 _ (hfp _ hb)).1 (hs4 _ _ (hCL0 _ (hfp _ hb)).2.1 ho)))).1
      rcases hf with rfl | rfl <;> exact fin
  · obtain ⟨hn, fp', ⟨h2, tk2, rfl⟩, hoff, hfp⟩ := hP
    obtain ⟨F2, N2, G2⟩ := keepF h2 fp' hfp hoff
    refine wpAny_execs_nil ?_
    have hin : i = text.cps.size := Nat.le_antisymm (by assumption) (Nat.le_of_sub_eq_zero hn)
    subst hin
    show Q .next ⟨h', ((G0.setIfInBounds g gsi).setIfInBounds g .running).setIfInBounds g .finished, d, tk2, os⟩
    rw [hsz, show (G0.setIfInBounds g GenState.running).setIfInBounds g GenState.finished = G0.setIfInBounds g GenState.finished by
        apply Array.ext_getElem?
        intro j
        simp only [Array.getElem?_setIfInBounds, Array.size_setIfInBounds]
        split <;> simp_all]
    exact hQ m' news' h' tk2 hJ (F2.keeps hk') (fun p hp' => ⟨hk' _ _ (N2 p hp').1, (N2 p hp').2⟩)
end
end Mine
end
section
open PySem PySem.W PySem.Spec PySem.Calls PyProof.Rows Builtin Builtin.ObjectAttr
namespace Mine
noncomputable def stripStep (text : Str) (st : Int × Option Int × List Str) (i : Nat) : Int × Option Int × List Str :=
  if text.cps.getD i 0 = 34 then
    (match st.2.1 with
    | none => (st.1, some (i : Int), st.2.2)
    | some o => ((i : Int) + 1, none, if st.1 ≠ o then st.2.2 ++ [Txt.slice text (some st.1) (some o)] else st.2.2))
  else st
noncomputable def stripFrom (text : Str) (n : Nat) : Int × Option Int × List Str := (List.range n).foldl (stripStep text) (0, none, [])
noncomputable def stripOf (text : Str) : Str :=
  if Txt.contains text (Str.ofString "\"") = false then text else
    Txt.join (Str.ofString "") ((stripFrom text text.cps.size).2.2 ++ if (stripFrom text text.cps.size).1 < (text.length : Int) then [Txt.slice text (some (stripFrom text text.cps.size).1) none] else [])
theorem stripFrom_next (text : Str) (n : Nat) : stripFrom text (n + 1) = stripStep text (stripFrom text n) n := by
  unfold stripFrom
  rw [List.range_succ, List.foldl_append]
  rfl
noncomputable def openIs (m₁ : Str → Option Value) : Option Int → Prop
  | none => m₁ (Str.ofString "open_pos") = some .none
  | some o => ∃ t, m₁ (Str.ofString "open_pos") = some (.int o t)
inductive StripJ (text : Str) (tt : Tok) (q : Addr) (nw : List (Addr × Obj)) (i : Nat) (m₁ : Str → Option Value) (news₁ : List (Addr × Obj)) : Prop
  | mk start op res ts ll n (h1 : stripFrom text i = (start, op, res)) (h2 : m₁ (Str.ofString "start") = some (.int start ts)) (h3 : openIs m₁ op) (h4 : m₁ (Str.ofString "result") = some (.ref q)) (h5 : m₁ (Str.ofString "addr") = some (.str text tt)) (h6 : news₁ = (q, W.listOf (strValues ll).toArray n) :: nw) (h7 : ll.map Prod.fst = res) (h8 : 0 ≤ start) (h9 : start ≤ i) (h10 : (∀ o, op = some o → 0 ≤ o ∧ o < i)) (h11 : res.length ≤ i) (h12 : (∀ x ∈ res, x.length ≤ text.length)) : StripJ text tt q nw i m₁ news₁
section
variable {prog : Program} {w : World} {A : Around} {E : Value → Shared → Prop} {s : Shared} {h₀ : Heap} {L q : Addr} {m : Str → Option Value} {rest : List (Addr × Obj)}
theorem strs_append {ll : List (Str × Tok)} {n : Nat} {x : Str} {t : Tok} {Q : Value → Shared → Prop} (F : Fr h₀ L s.heap m) (N : News h₀ L s.heap ((q, W.listOf (strValues ll).toArray n) :: rest)) (hoff : ∀ p ∈ rest, @Ne Nat p.1 q) (hl : ll.length ≤ 2000)
    (h : ∀ h', Fr h₀ L h' m → News h₀ L h' ((q, W.listOf (strValues (ll ++ [(x, t)])).toArray (n + 1)) :: rest) → Q .none { s with heap := h' }) : wpAny (model prog w) A (call (.builtin "list.append") [.ref q, .str x t]) Q E s :=
  append_K F N (by rw [strs_push]; exact Upd.head hoff) h (by rw [List.size_toArray]; simp [strValues]; rw [sizeLine_eq]; lia)
end
theorem stripJoin_ok {text : Str} {res : List Str} (hl : res.length ≤ 1001) (ht : text.length ≤ 1000) (h : ∀ x ∈ res, x.length ≤ text.length) : JoinOk (Str.ofString "") res = true := by
  refine joinOk_of ?_
  have h2 : (Str.ofString "").length = 0 := by decide +kernel
  have h1 : ∀ l : List Str, (∀ x ∈ l, x.length ≤ text.length) → (l.map (·.length)).sum ≤ l.length * 1000 := by
    intro l
    induction l with
    | nil => intro _; simp
    | cons a r ih =>
      intro hr
      have := ih fun x hx => hr x (.tail _ hx)
      have := hr a (.head _)
      simp only [List.map_cons, List.sum_cons, List.length_cons]
      lia
  have := h1 res h
  rw [h2]
  lia
end Mine
namespace Mine
theorem allBare_done {g : Array GenState} (G : AllBare g) (x : GenState) : AllBare ((g.push x).setIfInBounds g.size .finished) := fun y hy => by
  obtain ⟨j, hj⟩ := Array.getElem?_of_mem hy
  rw [Array.getElem?_setIfInBounds, Array.size_push] at hj
  by_cases h : g.size = j
  · rw [if_pos h] at hj
    split at hj
    · cases hj; rfl
    · cases hj
  · rw [if_neg h, Array.getElem?_push] at hj
    rw [if_neg (fun q => h q.symm)] at hj
    exact G _ (Array.mem_of_getElem? hj)
end Mine
end
example : True ∧ True := by first | (w_top off; walk1; done) | exact ⟨trivial, trivial⟩
section
open PySem PySem.W PySem.Spec PySem.Calls PyProof.Rows Builtin Builtin.ObjectAttr
open PyProof.Rows.LCg (lst lst_snoc)
example : (fun (_ : OpenLaw) (_ : Params → Frag) => True) PySem.Challenge.rw_tc0044_01 Mine.hd.heap_39 := by k_fill; trivial
namespace Mine
section
variable {w : World} {pT : Program} {loose : List Str} {mean : ExcName → Option Value} {mg mb : Str → Option Value}
theorem strip_call {text : Str} {tt : Tok} {nw : List (Addr × Obj)} {dp un : Nat} {gd : Option (List Code)} {cn : Str} {cs : Scope} {a : Addr} {ccd : Value} {cl : List (Str × Addr)} {outer : List Env} {A₀ : Around} {base h₀ : Heap} {L : Addr} {m : Str → Option Value} {s : Shared} {Q E : Value → Shared → Prop}
    (B : Below A₀ base outer h₀) (F : Fr h₀ L s.heap m) (X : (Mine.hd.heap_39 w.params).In h₀) (T : Top pT loose mean mg mb h₀) (hk : cs.kind = .function) (hd1 : dp + 40 < recursionLimit) (N : News h₀ L s.heap nw) (ha : text.cps.all (· < 128) = true) (hsz : text.length ≤ 1000) (hnb : ∀ c ∈ text.cps.toList, c ≠ 92) (G : AllBare s.gens)
    (hret : ∀ t' h' g' tk', Fr h₀ L h' m → News h₀ L h' nw → AllBare g' → Q (.str (stripOf text) t') ⟨h', g', s.drawn, tk', s.os⟩) :
    wpAny (model PySem.Challenge.pw_tc0044_01 w) (ktrTop dp un gd cn cs L a ccd cl outer) (call (.ref 35) [.str text tt]) Q E s := by
  refine wpAny_call ?_
  k_dflt (refine' code_def (binds := [(Str.ofString "addr", .str text tt)]) ?k1 ?k2 ?k3 ?k4 ?k5 ?kA ?kF ?kK ?k6 ?k7 ?k8 ?k9 ?kB ?_ ?c2 ?c3 ?c4 ?c5; (case kA => exact rfl); (case kF => exact rfl); (case kK => assumption); (case k1 => k_asm); (case k2 => k_asm); (case k3 => k_asm); (case k4 => k_asm); (case k5 => k_asm); (case k6 => k_is); (case k7 => k_is); (case k8 => ktr_room); (case k9 => exact BindsTo.of_eq rfl); (case c5 => decide); (case kB => exact locs rfl); (case c2 => exact rfl); (case c3 => exact rfl); (case c4 => exact rfl); k_whole; intro g' L' h' FG' F' N' B' X' T'; (try dsimp only); (try k_lift B'); (try k_fold); (try k_sweep))
  repeat walk1
  · (with_reducible rename Fr h₀ L _ m => F₈)
    (with_reducible rename News h₀ L _ _ => N₈)
    have e : stripOf text = text := by unfold stripOf; rw [if_pos (by unfold Txt.contains; simp_all)]
    have := hret tt _ _ tk F₈ N₈ G
    rw [e] at this
    exact this
  have hcon : ¬ Txt.contains text (Str.ofString "\"") = false := by unfold Txt.contains; simp_all
  repeat (first | with_reducible ((with_reducible show wpAny _ _ (call (Value.ref _) _) _ _ _); ((k_here; k_dflt (refine' esc_call ?B ?F ?X ?T ?hk ?hd1 ?N ha hsz hnb ?_; (case B => k_asm); (case F => k_asm); (case X => k_asm); (case T => k_asm); (case hk => rfl); (case hd1 => ktr_room); (case N => k_asm); intro CL ga oga ocl gs h₁ tk₁ F₁ N₁ l₁ l₂ l₃ hG hat)))) | with_reducible ((with_reducible show wpAny _ _ (exec (PySem.Stmt.For (PySem.Expr.Tuple _ _ _) _ _ _ _) _) _ _ _); ((k_here; k_dflt (refine For_gen (h₀ := g') rfl (by ktr_room) T'.nolimit rfl rfl rfl ?_)))) | walk1)
  rename_i tk0 hoc h3 h2 lz h1 q1 hh FF NN
  clear FF NN
  refine Stop.mk ⟨text, CL, ga, oga, ocl, s.gens.size, gs, _, (lz, W.listOf (([] : List Value).toArray) 0) :: nw, StripJ text tt lz nw, rfl, F₁, N₁, l₁, l₂, l₃, hG, by simp, hat, ?_, ?_, ?_⟩
  · exact ⟨0, none, [], _, [], 0, rfl, rfl, rfl, rfl, rfl, rfl, rfl, by lia, by lia, (fun o e => nomatch e), Nat.le_refl _, (fun x e => nomatch e)⟩
  · rintro i c t1 t2 m₁ news₁ own gs' h₄ tk₄ hc ⟨start, op, res, ts, ll, n, hst, ms, mo, mr, ma, rfl, hll, hs0, hsi, hop, hrl, hrx⟩ hnews hown F₅ N₅
    clear F₁ N₁ hat hG
    have hlzC : @LT.lt Nat _ lz CL := hnews _ (.head _)
    have hnx := stripFrom_next text i
    rw [hst] at hnx
    have hil : i < 1000 := Nat.lt_of_lt_of_le (Array.getElem?_eq_some_iff.mp hc).1 hsz
    have hit : i < text.length := (Array.getElem?_eq_some_iff.mp hc).1
    have hc' : text.cps.getD i 0 = c := by rw [Array.getD_eq_getD_getElem?, hc]; rfl
    have hl2 : ll.length ≤ 2000 := by
      have := congrArg List.length hll
      rw [List.length_map] at this
      lia
    have hoq : ∀ p ∈ nw ++ own, @Ne Nat p.1 lz := by
      intro p hp
      rcases List.mem_append.mp hp with h | h
      · exact Nat.ne_of_lt (q1 p h)
      · exact Nat.ne_of_gt (Nat.lt_of_lt_of_le (hnews _ (.head _)) (hown p h))
    rw [List.cons_append] at N₅
    unfold stripStep at hnx
    rw [hc'] at hnx
    cases op with
    | none =>
      replace mo : m₁ (Str.ofString "open_pos") = some .none := mo
      repeat (first | with_reducible ((with_reducible show wpAny _ _ (eval (PySem.Expr.Name _ _) _) _ _ _); ((k_here; (with_reducible show wpAny _ _ (eval _ (envOf _ _ _ _ _)) _ _ _); k_dflt (refine' ld ?k1 ?k2 ?_; (case k1 => k_asm); (case k2 => assumption); k_whole)))) | walk1)
      all_goals (repeat walk1)
      · (with_reducible rename Fr g' _ _ _ => F₈)
        (with_reducible rename News g' _ _ _ => N₈)
        have hs : (c == 34) = true := by rw [← sign_eqQ]; assumption
        have hc34 : c = 34 := by simpa using hs
        rw [if_pos hc34] at hnx
        simp only at hnx
        exact ⟨.inl rfl, _, _, _, (lz, W.listOf (strValues ll).toArray n) :: nw, rfl, F₈, N₈, (fun p hp => by rcases List.mem_cons.mp hp with rfl | h; exact hlzC; exact hnews _ (.tail _ h)), ⟨start, some (i : Int), res, ts, ll, n, hnx, ms, ⟨t1, rfl⟩, mr, ma, rfl, hll, hs0, by lia, (fun o e => by cases e; lia), by lia, hrx⟩⟩
      · (with_reducible rename Fr g' _ _ _ => F₈)
        (with_reducible rename News g' _ _ _ => N₈)
        have hs : (c == 34) = false := by rw [← sign_eqQ]; assumption
        have hc34 : ¬ c = 34 := by simpa using hs
        rw [if_neg hc34] at hnx
        exact ⟨.inl rfl, _, _, _, (lz, W.listOf (strValues ll).toArray n) :: nw, rfl, F₈, N₈, (fun p hp => by rcases List.mem_cons.mp hp with rfl | h; exact hlzC; exact hnews _ (.tail _ h)), ⟨start, none, res, ts, ll, n, hnx, ms, mo, mr, ma, rfl, hll, hs0, by lia, (fun o e => nomatch e), by lia, hrx⟩⟩
    | some o =>
      obtain ⟨to, mo⟩ := mo
      have ho := hop o rfl
      repeat (first | with_reducible ((with_reducible show wpAny _ _ (call (Value.builtin "list.append") _) _ _ _); ((k_here; k_dflt (refine' strs_append ?k1 ?k2 ?k3 ?k4 ?_; (case k1 => k_asm); (case k2 => k_asm); (case k3 => assumption); (case k4 => assumption); k_whole; intro h₁ F₁ N₁)))) | with_reducible ((with_reducible show wpAny _ _ (eval (PySem.Expr.Name _ _) _) _ _ _); ((k_here; (with_reducible show wpAny _ _ (eval _ (envOf _ _ _ _ _)) _ _ _); k_dflt (refine' ld ?k1 ?k2 ?_; (case k1 => k_asm); (case k2 => assumption); k_whole)))) | walk1)
      all_goals (repeat walk1)
      all_goals (repeat walk1)
      · (with_reducible rename Fr g' _ _ _ => F₈)
        (with_reducible rename News g' _ _ _ => N₈)
        have hs : (c == 34) = true := by rw [← sign_eqQ]; assumption
        have hc34 : c = 34 := by simpa using hs
        rw [if_pos hc34] at hnx
        simp only at hnx
        rw [if_pos (by simp_all)] at hnx
        exact ⟨.inl rfl, _, _, _, (lz, W.listOf (strValues (ll ++ [(Txt.slice text (some start) (some o), _)])).toArray (n + 1)) :: nw, rfl, F₈, N₈, (fun p hp => by rcases List.mem_cons.mp hp with rfl | h; exact hlzC; exact hnews _ (.tail _ h)), ⟨(i : Int) + 1, none, res ++ [Txt.slice text (some start) (some o)], _, _, n + 1, hnx, rfl, rfl, mr, ma, rfl, by rw [List.map_append, hll]; rfl, by lia, by lia, (fun o e => nomatch e), by rw [List.length_append, List.length_singleton]; lia, (fun x hx => by rcases List.mem_append.mp hx with h | h; exact hrx x h; rw [List.mem_singleton.mp h]; exact Txt.slice_le _ _ _)⟩⟩
      · (with_reducible rename Fr g' _ _ _ => F₈)
        (with_reducible rename News g' _ _ _ => N₈)
        have hs : (c == 34) = true := by rw [← sign_eqQ]; assumption
        have hc34 : c = 34 := by simpa using hs
        rw [if_pos hc34] at hnx
        simp only at hnx
        rw [if_neg (by simp_all)] at hnx
        exact ⟨.inl rfl, _, _, _, (lz, W.listOf (strValues ll).toArray n) :: nw, rfl, F₈, N₈, (fun p hp => by rcases List.mem_cons.mp hp with rfl | h; exact hlzC; exact hnews _ (.tail _ h)), ⟨(i : Int) + 1, none, res, _, ll, n, hnx, rfl, rfl, mr, ma, rfl, hll, by lia, by lia, (fun o e => nomatch e), by lia, hrx⟩⟩
      · (with_reducible rename Fr g' _ _ _ => F₈)
        (with_reducible rename News g' _ _ _ => N₈)
        have hs : (c == 34) = false := by rw [← sign_eqQ]; assumption
        have hc34 : ¬ c = 34 := by simpa using hs
        rw [if_neg hc34] at hnx
        exact ⟨.inl rfl, _, _, _, (lz, W.listOf (strValues ll).toArray n) :: nw, rfl, F₈, N₈, (fun p hp => by rcases List.mem_cons.mp hp with rfl | h; exact hlzC; exact hnews _ (.tail _ h)), ⟨start, some o, res, ts, ll, n, hnx, ms, ⟨to, mo⟩, mr, ma, rfl, hll, hs0, by lia, (fun o' e => by cases e; lia), by lia, hrx⟩⟩
  · rintro m' news' h' tk ⟨start, op, res, ts, ll, n, hst, ms, mo, mr, ma, rfl, hll, hs0, hsi, hop, hrl, hrx⟩ F₅ N₅
    clear F₁ N₁ hat hG
    have hoq' : ∀ p ∈ nw, @Ne Nat p.1 lz := fun p hp => Nat.ne_of_lt (q1 p hp)
    have hl2 : ll.length ≤ 2000 := by
      have := congrArg List.length hll
      rw [List.length_map] at this
      have hz : text.cps.size ≤ 1000 := hsz
      lia
    have hz : text.cps.size ≤ 1000 := hsz
    have hso : stripOf text = Txt.join (Str.ofString "") (res ++ if start < (text.length : Int) then [Txt.slice text (some start) none] else []) := by
      unfold stripOf
      rw [if_neg hcon, hst]
    have hGb := allBare_done G gs
    repeat (first | with_reducible ((with_reducible show wpAny _ _ (call (Value.builtin "list.append") _) _ _ _); ((k_here; k_dflt (refine' strs_append ?k1 ?k2 ?k3 ?k4 ?_; (case k1 => k_asm); (case k2 => k_asm); (case k3 => assumption); (case k4 => assumption); k_whole; intro h₁ F₁ N₁)))) | with_reducible ((with_reducible show wpAny _ _ (eval (PySem.Expr.Name _ _) _) _ _ _); ((k_here; (with_reducible show wpAny _ _ (eval _ (envOf _ _ _ _ _)) _ _ _); k_dflt (refine' ld ?k1 ?k2 ?_; (case k1 => k_asm); (case k2 => assumption); k_whole)))) | walk1)
    · rw [if_pos (by assumption)] at hso
      k_dflt (refine' SC.join (News.isList (by k_asm) (by k_mem)) (texts := res ++ [Txt.slice text (some start) none]) (by rw [List.map_append, hll]; rfl) ?hj ?_; (case hj => exact stripJoin_ok (by rw [List.length_append, List.length_singleton]; lia) hsz (fun x hx => by rcases List.mem_append.mp hx with h | h; exact hrx x h; rw [List.mem_singleton.mp h]; exact Txt.slice_le _ _ _)); intro t' k')
      repeat walk1
      (with_reducible rename Fr h₀ L _ m => F₈)
      (with_reducible rename News h₀ L _ _ => N₈)
      rw [← hso]
      exact hret _ _ _ _ F₈ (news_sub N₈ fun p hp => .tail _ hp) hGb
    · rw [if_neg (by assumption), List.append_nil] at hso
      repeat (first | with_reducible ((with_reducible show wpAny _ _ (eval (PySem.Expr.Name _ _) _) _ _ _); ((k_here; (with_reducible show wpAny _ _ (eval _ (envOf _ _ _ _ _)) _ _ _); k_dflt (refine' ld ?k1 ?k2 ?_; (case k1 => k_asm); (case k2 => assumption); k_whole)))) | walk1)
      k_dflt (refine' SC.join (News.isList (by k_asm) (by k_mem)) (texts := res) hll ?hj ?_; (case hj => exact stripJoin_ok (by lia) hsz hrx); intro t' k')
      repeat walk1
      (with_reducible rename Fr h₀ L _ m => F₈)
      (with_reducible rename News h₀ L _ _ => N₈)
      rw [← hso]
      exact hret _ _ _ _ F₈ (news_sub N₈ fun p hp => .tail _ hp) hGb
end
end Mine
end
section
open PySem PySem.W PySem.Spec PySem.Calls PyProof.Rows
namespace Mine
noncomputable def LawEnd (tabs : List (Addr × Addr)) (s₁ : Shared) (r : Result) (s' : Shared) : Prop :=
  r = .ok (.ret (.bool true)) ∧ (∀ b o, (ghostOf s₁.heap tabs).get? b = some o → s'.heap.get? b = some o) ∧ s'.os = s₁.os ∧ AllBare s'.gens ∧ GrownAll tabs s'.heap
theorem law_post {M : Model} {A : Around} {cd : Code} {s s₁ : Shared} {cw : ClaimW} {cl : Str → Option Addr} {mean : ExcName → Option Value} {args : List WData} {tabs : List (Addr × Addr)} (hT : TabsAt tabs s₁.heap) (hr : ∀ a x, cw.raises a x = false)
    (hp : cw.post args (.bool true) args = true) (h : codeAny M A cd (LawEnd tabs s₁) s) : codeAny M A cd (GoodWG cw cl mean args s₁) s := by
  refine codeAny_mono h fun r s' hh => ?_
  obtain ⟨rfl, hk, hos, hg, hgr⟩ := hh
  have far : ∀ b o, b ∉ tabs.map (·.2) → s₁.heap.get? b = some o → s'.heap.get? b = some o := fun b o hb e => hk b o (ghost_ne e hb)
  have near : ∀ b o, b ∈ tabs.map (·.2) → s₁.heap.get? b = some o → isCodeTable s₁.heap b ∧ o = tabObj #[] ∧ GrownAt b s'.heap := fun b o hb e => by
    obtain ⟨q, hq, rfl⟩ := List.mem_map.mp hb
    obtain ⟨c1, c2⟩ := hT q hq
    exact ⟨(c1.tab c2).isCodeTable, Option.some.inj (e.symm.trans c2), hgr.get q hq⟩
  refine ⟨.inl ⟨.bool true, .bool true, [], rfl, hr _, .bool true, hp, fun _ => ⟨List.nodup_nil, fun a ha => nomatch ha⟩⟩, ⟨fun b o e => ?_, fun b o e => ?_⟩, hos, hg⟩
  · by_cases hb : b ∈ tabs.map (·.2)
    · obtain ⟨c1, rfl, ps, c3⟩ := near b o hb e
      exact .inr (.inl ⟨c1, rfl, #[], ps, rfl, by rw [Array.empty_append]; exact c3⟩)
    · exact .inl (far b o hb e)
  · by_cases hb : b ∈ tabs.map (·.2)
    · obtain ⟨_, _, ps, c3⟩ := near b o hb e
      exact ⟨_, c3⟩
    · exact ⟨o, far b o hb e⟩
theorem law_says (args : List WData) : PySem.Challenge.rw_tc0044_01.row.claim.post args (.bool true) args = true := by
  first
  | (with_unfolding_all rfl)
  | (show (WShape.has _ (WData.bool true) .bool && WTm.holds _ _ _) = true
     refine Bool.and_eq_true_iff.mpr ⟨by first | rfl | (simp [WShape.has]), ?_⟩
     refine holdsW_of_value (X := true) ?_
     first | rfl | with_unfolding_all rfl | (simp [WTm.value]))
noncomputable def BodyEnd (g : Heap) (L : Addr) (s : Shared) (f : Flow) (s' : Shared) : Prop :=
  f = .ret (.bool true) ∧ ∃ h' g' tk' m nw ps ps2, s' = ⟨h', g', s.drawn, tk', s.os⟩ ∧ Fr g L h' m ∧ News g L h' nw ∧ AllBare g' ∧ (154, tabObj ps) ∈ nw ∧ (161, tabObj ps2) ∈ nw
theorem body_end {s₁ s s' : Shared} {L : Addr} {f : Flow} {c1 c2 : Addr} (ho : s.os = s₁.os) : BodyEnd (ghostOf s₁.heap [(c1, 154), (c2, 161)]) L s f s' →
    LawEnd [(c1, 154), (c2, 161)] s₁ (.ok (.ret (match f with | .ret v => v | _ => .none))) s' := by
  rintro ⟨rfl, h', g', tk', m, nw, ps, ps2, rfl, F, N, G, t1, t2⟩
  exact ⟨rfl, F.keep, ho, G, GrownAt.of N t1, GrownAt.of N t2, True.intro⟩
end Mine
end
section
open PySem PySem.W PySem.Spec PySem.Calls PyProof.Rows
namespace Mine
noncomputable def AnyInt (_ : Nat) (v : Value) : Prop := ∃ k t, v = .int k t
theorem paired_anyInts : ∀ {is : List Nat} {ys : List Value}, Paired AnyInt is ys → ∃ ll, ys = intValues ll ∧ ll.length = is.length
  | _, _, .nil => ⟨[], rfl, rfl⟩
  | _, _, .cons ⟨k, t, h⟩ r => by
    obtain ⟨ll, rfl, e⟩ := paired_anyInts r
    exact ⟨(k, t) :: ll, by rw [h]; rfl, by simp [e]⟩
theorem news_drop2 {h₀ h : Heap} {L : Addr} {p x : Addr × Obj} {r : List (Addr × Obj)} (N : News h₀ L h (p :: x :: r)) : News h₀ L h (p :: r) := news_sub N fun y hy => by
  rcases List.mem_cons.mp hy with rfl | h
  · exact .head _
  · exact .tail _ (.tail _ h)
theorem vals_any : ∀ {vs : List Value}, (∀ v ∈ vs, ∃ k t, v = Value.int k t) → ∃ ll, vs = intValues ll
  | [], _ => ⟨[], rfl⟩
  | v :: r, h => by
    obtain ⟨k, t, rfl⟩ := h v (.head _)
    obtain ⟨ll, rfl⟩ := vals_any (vs := r) fun x hx => h x (.tail _ hx)
    exact ⟨(k, t) :: ll, rfl⟩
section
variable {prog : Program} {w : World} {A : Around} {E : Value → Shared → Prop} {s : Shared} {h₀ : Heap} {L l : Addr} {m : Str → Option Value} {news : List (Addr × Obj)}
theorem slice_step {value slice : PySem.Expr} {vl vu vk : Value} {lo hi st : Option Int} {ops : List Value} {cl : List (Int × Tok)} {n : Nat} {Q : Value → Shared → Prop} (F : Fr h₀ L s.heap m) (N : News h₀ L s.heap news) (hl : (l, W.listOf (intValues cl).toArray n) ∈ news)
    (pl : IsPart vl lo) (pu : IsPart vu hi) (pk : IsPart vk st) (h0 : st ≠ some 0)
    (h : ∀ D h' ll, Fr h₀ L h' m → News h₀ L h' ((D, W.listOf (intValues ll).toArray 0) :: news) → (∀ p ∈ news, p.1 < D) → Q (.ref D) { s with heap := h' })
    (hs : subscripted slice false (.ref l) (.ref s.heap.objs.size) = operate ops (getItem (.ref l) (.ref s.heap.objs.size))) (ht : ∀ r, letTemporaryGo value (.ref l) r = pure ()) (hz : cl.length ≤ 1000) :
    wpAny (model prog w) A (subscriptTail value slice (.ref l) (.ref s.heap.objs.size)) Q E { s with heap := s.heap.push { cls := .type "slice", data := .fields #[vl, vu, vk] } } := by
  have hv : ∀ v ∈ (slicePick (intValues cl).toArray lo hi st).toList, ∃ k t, v = Value.int k t := by
    intro v hv
    unfold slicePick at hv
    obtain ⟨i, _, hi⟩ := List.mem_filterMap.mp hv
    have := List.mem_of_getElem? (by simpa using hi : (intValues cl)[i]? = some v)
    obtain ⟨p, _, rfl⟩ := List.mem_map.mp this
    exact ⟨_, _, rfl⟩
  obtain ⟨ll, e⟩ := vals_any hv
  exact kmk_slice3_lit F N ⟨_, (N _ hl).1, rfl, n, rfl⟩ pl pu pk h0 e (fun D h' F' N' l1 => h D h' ll F' N' l1) hs ht (by rw [List.size_toArray, intValues_length, sizeLine_eq]; lia)
end
end Mine
end
section
open PySem PySem.W PySem.Spec PySem.Calls PyProof.Rows
namespace Mine
noncomputable def wordAt (i : Nat) (k : Int) : Str := Txt.item (Str.ofString "acegik") (i : Int) ++ Txt.mul (Str.ofString "\"") (k.fmod 2) ++ Txt.mul (Txt.item (Str.ofString "bdfhjl") (i : Int)) ((k.fdiv 2).fmod 2)
noncomputable def wordsTo (ks : List Int) (i : Nat) : List Str := (List.range i).map fun j => wordAt j (ks.getD j 0)
inductive WordsJ (lw D3 : Addr) (g0 : Array GenState) (rest : List (Addr × Obj)) (ks : List Int) (i : Nat) (m : Str → Option Value) (news : List (Addr × Obj)) (g : Array GenState) : Prop
  | mk (h1 : g = g0) (h2 : m (Str.ofString "words") = some (.ref lw)) (h3 : m (Str.ofString "numbers") = some (.ref D3)) wl n (h4 : news = (lw, W.listOf (strValues wl).toArray n) :: rest) (h5 : wl.map Prod.fst = wordsTo ks i) : WordsJ lw D3 g0 rest ks i m news g
theorem wordsTo_next {ks : List Int} {i : Nat} {k : Int} (h : ks[i]? = some k) : wordsTo ks (i + 1) = wordsTo ks i ++ [wordAt i k] := by
  unfold wordsTo
  rw [List.range_succ, List.map_append, List.map_singleton, List.getD_eq_getElem?_getD, h]
  rfl
theorem wordsTo_length (ks : List Int) (i : Nat) : (wordsTo ks i).length = i := by simp [wordsTo]
theorem news_front3 {h₀ h : Heap} {L : Addr} {a b c x : Addr × Obj} {r : List (Addr × Obj)} (N : News h₀ L h (a :: b :: c :: x :: r)) : News h₀ L h (x :: a :: b :: c :: r) := fun y hy => N y (by
  rcases List.mem_cons.mp hy with rfl | hy
  · exact .tail _ (.tail _ (.tail _ (.head _)))
  · rcases List.mem_cons.mp hy with rfl | hy
    · exact .head _
    · rcases List.mem_cons.mp hy with rfl | hy
      · exact .tail _ (.head _)
      · rcases List.mem_cons.mp hy with rfl | hy
        · exact .tail _ (.tail _ (.head _))
        · exact .tail _ (.tail _ (.tail _ (.tail _ hy))))
theorem words_end {h₀ h : Heap} {L e it l lw D3 : Addr} {oe oit ol : Obj} {g : Array GenState} {d : Drawn} {os : OsState} {tk : Nat} {rest : List (Addr × Obj)} {ks : List Int} {i : Nat} {k : Int} {wl : List (Str × Tok)} {t : Tok} {nn nn0 : Nat} {m : Str → Option Value}
    (F : Fr h₀ L h m) (N : News h₀ L h ((lw, W.listOf (strValues (wl ++ [(wordAt i k, t)])).toArray nn) :: (e, oe) :: (it, oit) :: (l, ol) :: rest)) (hoff : ∀ p ∈ (lw, (W.listOf (strValues wl).toArray nn0)) :: rest, @Ne Nat p.1 e ∧ @Ne Nat p.1 it ∧ @Ne Nat p.1 l)
    (mw : m (Str.ofString "words") = some (.ref lw)) (mn : m (Str.ofString "numbers") = some (.ref D3)) (hk : ks[i]? = some k) (hwl : wl.map Prod.fst = wordsTo ks i) :
    StepG h₀ L [(e, oe), (it, oit), (l, ol)] e it l (WordsJ lw D3 g rest ks (i + 1)) d os .next ⟨h, g, d, tk, os⟩ := by
  refine ⟨.inl rfl, h, g, tk, m, (lw, W.listOf (strValues (wl ++ [(wordAt i k, t)])).toArray nn) :: rest, _, rfl, F, N, ?_, ?_, rfl, mw, mn, _, nn, rfl, by rw [wordsTo_next hk, List.map_append, hwl]; rfl⟩
  · intro p hp
    simp only [List.mem_cons, List.not_mem_nil, or_false] at hp
    rcases hp with rfl | rfl | rfl
    · exact .tail _ (.head _)
    · exact .tail _ (.tail _ (.head _))
    · exact .tail _ (.tail _ (.tail _ (.head _)))
  · intro p hp
    rcases List.mem_cons.mp hp with rfl | hp
    · exact ⟨.head _, hoff (lw, W.listOf (strValues wl).toArray nn0) (.head _)⟩
    · exact ⟨.tail _ (.tail _ (.tail _ (.tail _ hp))), hoff _ (.tail _ hp)⟩
end Mine
end
section
open PySem PySem.W PySem.Spec PySem.Calls PyProof.Rows
namespace Mine
noncomputable def lineK (ks : List Int) : Str := Txt.join (Str.ofString " ") (wordsTo ks 6)
noncomputable def leftParts (line : Str) : List Str := ((List.range line.cps.size).filter fun i => !(hiddenOf line).getD i false).map fun i => ⟨#[line.cps.getD i 0]⟩
noncomputable def leftOf (line : Str) : Str := Txt.join (Str.ofString "") (leftParts line)
noncomputable def hidAt (line : Str) (s : Int) : Bool := (hiddenOf line).getD s.toNat false
noncomputable def oneOf (line : Str) (width : Int) : List Int := ((endsOf line width).filter fun s => !hidAt line s).map fun s => s - ((((hiddenOf line).take s.toNat).filter id).length : Int)
noncomputable def dueOf (one two : List Int) : Int := 2 * (((one.filter fun s => !decide (s ∈ two)).length : Int) + ((two.filter fun s => !decide (s ∈ one)).length : Int))
structure FoldFacts (text : Str) (width : Int) (r : Str) : Prop where
  len : text.length ≤ 1000
  parts : ∃ words ls pp fw wd, Txt.split text (Str.ofString " ") = words ∧ words.length ≤ 700 ∧ (∀ v ∈ words, v.length ≤ 1000) ∧ foldAll width (chunksOf words) = (ls, pp ++ [(fw, wd)]) ∧ wd ≠ Str.ofString "" ∧ 0 < sumLen (pp ++ [(fw, wd)]) ∧
    Txt.isspace (Txt.join (Str.ofString "") ((pp ++ [(fw, wd)]).map partStr)) = false ∧ JoinOk (Str.ofString "\n") (ls ++ [lineOf (pp ++ [(fw, wd)])]) = true ∧ Txt.join (Str.ofString "\n") (ls ++ [lineOf (pp ++ [(fw, wd)])]) = r
structure StripFacts (text : Str) : Prop where
  asc : text.cps.all (· < 128) = true
  len : text.length ≤ 1000
  nob : ∀ c ∈ text.cps.toList, c ≠ 92
structure LawFacts (ks : List Int) (line left folded1 folded2 : Str) (one two : List Int) (width : Int) : Prop where
  hline : line = Txt.join (Str.ofString " ") (wordsTo ks 6)
  hleft : left = leftOf line
  hone : one = oneOf line width
  htwo : two = endsOf left width
  jok : JoinOk (Str.ofString " ") (wordsTo ks 6) = true
  asc : line.cps.all (· < 128) = true
  len : line.cps.size ≤ 30
  hidlen : (hiddenOf line).length = line.cps.size
  jokL : JoinOk (Str.ofString "") (leftParts line) = true
  ascL : left.cps.all (· < 128) = true
  lenL : left.cps.size ≤ 30
  endsIn : ∀ s ∈ endsOf line width, 0 ≤ s ∧ s < line.cps.size
  endsLen : (endsOf line width).length ≤ 30
  twoLen : two.length ≤ 30
  fold1 : FoldFacts line width folded1
  strip1 : StripFacts folded1
  strip2 : StripFacts line
  hstrip : stripOf line = left
  fold2 : FoldFacts left width folded2
  eq1 : stripOf folded1 = toldOf left one
  eq2 : folded2 = toldOf left two
  lenA : (toldOf left one).length ≤ 40
  lenB : (toldOf left two).length ≤ 40
  lowA : LowOk (toldOf left one)
  lowB : LowOk (toldOf left two)
  lev : levPure (toldOf left one) (toldOf left two) (dueOf one two) = dueOf one two
end Mine
end
section
namespace Mine
inductive Ed : List Nat → List Nat → Nat → Prop
  | nil : Ed [] [] 0
  | del (x : Nat) {a b : List Nat} {n : Nat} : Ed a b n → Ed (x :: a) b (n + 1)
  | ins (y : Nat) {a b : List Nat} {n : Nat} : Ed a b n → Ed a (y :: b) (n + 1)
  | sub (x y : Nat) {a b : List Nat} {n : Nat} : Ed a b n → Ed (x :: a) (y :: b) (n + 1)
  | keep (x : Nat) {a b : List Nat} {n : Nat} : Ed a b n → Ed (x :: a) (x :: b) n
namespace Ed
theorem refl : ∀ a : List Nat, Ed a a 0
  | [] => .nil
  | x :: a => .keep x (refl a)
theorem append {a b a' b' : List Nat} {n m : Nat} (h : Ed a b n) (h' : Ed a' b' m) : Ed (a ++ a') (b ++ b') (n + m) := by
  induction h with
  | nil => simpa using h'
  | del x _ ih => rw [Nat.add_right_comm]; exact .del x ih
  | ins y _ ih => rw [Nat.add_right_comm]; exact .ins y ih
  | sub x y _ ih => rw [Nat.add_right_comm]; exact .sub x y ih
  | keep x _ ih => exact .keep x ih
theorem reverse {a b : List Nat} {n : Nat} (h : Ed a b n) : Ed a.reverse b.reverse n := by
  induction h with
  | nil => exact .nil
  | del x _ ih => simpa using ih.append (.del x .nil)
  | ins y _ ih => simpa using ih.append (.ins y .nil)
  | sub x y _ ih => simpa using ih.append (.sub x y .nil)
  | keep x _ ih => simpa using ih.append (.keep x .nil)
theorem reverse_iff {a b : List Nat} {n : Nat} : Ed a.reverse b.reverse n ↔ Ed a b n := ⟨fun h => by simpa using h.reverse, reverse⟩
theorem symm {a b : List Nat} {n : Nat} (h : Ed a b n) : Ed b a n := by
  induction h with
  | nil => exact .nil
  | del x _ ih => exact .ins x ih
  | ins y _ ih => exact .del y ih
  | sub x y _ ih => exact .sub y x ih
  | keep x _ ih => exact .keep x ih
theorem len {a b : List Nat} {n : Nat} (h : Ed a b n) : a.length ≤ b.length + n ∧ b.length ≤ a.length + n := by
  induction h <;> simp only [List.length_cons, List.length_nil] at * <;> lia
theorem nil_left {b : List Nat} {n : Nat} (h : Ed [] b n) : n = b.length := by
  induction b generalizing n with
  | nil => cases h; rfl
  | cons y b ih => cases h with | ins _ h => rw [ih h]; rfl
theorem to_nil : ∀ b : List Nat, Ed [] b b.length
  | [] => .nil
  | y :: b => .ins y (to_nil b)
theorem drop_left {x : Nat} {a b : List Nat} {n : Nat} (h : Ed (x :: a) b n) : ∃ m, m ≤ n + 1 ∧ Ed a b m := by
  generalize e : x :: a = xa at h
  induction h with
  | nil => cases e
  | @del x _ _ n₀ h _ => cases e; exact ⟨n₀, by lia, h⟩
  | ins y _ ih =>
    obtain ⟨m, hm, h⟩ := ih e
    exact ⟨m + 1, by lia, .ins y h⟩
  | @sub x y _ _ n₀ h _ => cases e; exact ⟨n₀ + 1, by lia, .ins y h⟩
  | @keep x _ _ n₀ h _ => cases e; exact ⟨n₀ + 1, Nat.le_refl _, .ins _ h⟩
theorem cancel {x : Nat} {a b : List Nat} {n : Nat} (h : Ed (x :: a) (x :: b) n) : ∃ m, m ≤ n ∧ Ed a b m := by
  cases h with
  | del _ h =>
    obtain ⟨m, hm, h⟩ := h.symm.drop_left
    exact ⟨m, hm, h.symm⟩
  | ins _ h => exact h.drop_left
  | sub _ _ h => exact ⟨_, by lia, h⟩
  | keep _ h => exact ⟨_, Nat.le_refl _, h⟩
theorem cancelL {a b : List Nat} : ∀ {p : List Nat} {n : Nat}, Ed (p ++ a) (p ++ b) n → ∃ m, m ≤ n ∧ Ed a b m
  | [], n, h => ⟨n, Nat.le_refl _, h⟩
  | x :: p, n, h => by
    obtain ⟨m, hm, h⟩ := cancel h
    obtain ⟨k, hk, h⟩ := cancelL h
    exact ⟨k, by lia, h⟩
theorem cancelR {a b s : List Nat} {n : Nat} (h : Ed (a ++ s) (b ++ s) n) : ∃ m, m ≤ n ∧ Ed a b m := by
  have h' := h.reverse
  rw [List.reverse_append, List.reverse_append] at h'
  obtain ⟨m, hm, h'⟩ := cancelL h'
  exact ⟨m, hm, reverse_iff.mp h'⟩
theorem row {s b : List Nat} : ∀ {a : List Nat} {n : Nat}, Ed a (s ++ b) n → ∃ r a' m, a = r ++ a' ∧ m ≤ n ∧ Ed a' b m := by
  intro a n h
  generalize e : s ++ b = sb at h
  induction h generalizing s with
  | nil =>
    obtain ⟨rfl, rfl⟩ := List.append_eq_nil_iff.mp e
    exact ⟨[], [], 0, rfl, Nat.le_refl _, .nil⟩
  | @del x a₀ b₀ n₀ h ih =>
    cases s with
    | nil => exact ⟨[], x :: a₀, n₀ + 1, rfl, Nat.le_refl _, by rw [List.nil_append] at e; rw [e]; exact .del x h⟩
    | cons y s =>
      obtain ⟨r, a', m, rfl, hm, h⟩ := ih e
      exact ⟨x :: r, a', m, rfl, by lia, h⟩
  | @ins y a₀ b₀ n₀ h ih =>
    cases s with
    | nil => exact ⟨[], a₀, n₀ + 1, rfl, Nat.le_refl _, by rw [List.nil_append] at e; rw [e]; exact .ins y h⟩
    | cons z s =>
      rw [List.cons_append] at e
      injection e with _ e
      obtain ⟨r, a', m, rfl, hm, h⟩ := ih e
      exact ⟨r, a', m, rfl, by lia, h⟩
  | @sub x y a₀ b₀ n₀ h ih =>
    cases s with
    | nil => exact ⟨[], x :: a₀, n₀ + 1, rfl, Nat.le_refl _, by rw [List.nil_append] at e; rw [e]; exact .sub x y h⟩
    | cons z s =>
      rw [List.cons_append] at e
      injection e with _ e
      obtain ⟨r, a', m, rfl, hm, h⟩ := ih e
      exact ⟨x :: r, a', m, rfl, by lia, h⟩
  | @keep x a₀ b₀ n₀ h ih =>
    cases s with
    | nil => exact ⟨[], x :: a₀, n₀, rfl, Nat.le_refl _, by rw [List.nil_append] at e; rw [e]; exact .keep x h⟩
    | cons z s =>
      rw [List.cons_append] at e
      injection e with _ e
      obtain ⟨r, a', m, rfl, hm, h⟩ := ih e
      exact ⟨x :: r, a', m, rfl, by lia, h⟩
end Ed
noncomputable abbrev Fl := Nat × Bool × Bool
noncomputable def nlIf (r : Bool) : List Nat := if r then [10] else []
noncomputable def strA : List Fl → List Nat
  | [] => []
  | (c, a, _) :: t => nlIf a ++ c :: strA t
noncomputable def strB : List Fl → List Nat
  | [] => []
  | (c, _, b) :: t => nlIf b ++ c :: strB t
noncomputable def resA (r : Bool) : List Fl → List Nat
  | [] => []
  | (c, _, _) :: t => nlIf r ++ c :: strA t
noncomputable def resB (r : Bool) : List Fl → List Nat
  | [] => []
  | (c, _, _) :: t => nlIf r ++ c :: strB t
noncomputable def flA : List Fl → Bool
  | [] => false
  | (_, a, _) :: _ => a
noncomputable def flB : List Fl → Bool
  | [] => false
  | (_, _, b) :: _ => b
theorem strA_res : ∀ t, strA t = resA (flA t) t
  | [] => rfl
  | (_, _, _) :: _ => rfl
theorem strB_res : ∀ t, strB t = resB (flB t) t
  | [] => rfl
  | (_, _, _) :: _ => rfl
noncomputable def apart : List Fl → Nat
  | [] => 0
  | (_, a, b) :: t => apart t + (if a = b then 0 else 1)
noncomputable def headS : List Fl → Nat
  | [] => 0
  | (c, _, _) :: _ => c
noncomputable def GoodT : List Fl → Prop
  | [] => True
  | (c, a, b) :: t => c ≠ 10 ∧ (a = true ∨ b = true → c = 32) ∧ (c = 32 → headS t ≠ 32) ∧ (c ≠ 32 → c ∉ t.map Prod.fst) ∧ GoodT t
theorem GoodT.suffix : ∀ {u t : List Fl}, GoodT (u ++ t) → GoodT t
  | [], _, h => h
  | _ :: _, _, h => GoodT.suffix h.2.2.2.2
noncomputable def apt (t : List Fl) : Nat := apart t.tail
theorem apart_le (t : List Fl) : apart t ≤ apt t + 1 := by
  cases t with
  | nil => exact Nat.zero_le _
  | cons x t =>
    obtain ⟨c, a, b⟩ := x
    simp only [apart, apt, List.tail_cons]
    split <;> lia
theorem apart_same {t : List Fl} (h : GoodT t) (h' : headS t ≠ 32) : apart t = apt t := by
  cases t with
  | nil => rfl
  | cons x t =>
    obtain ⟨c, a, b⟩ := x
    simp only [apart, apt, List.tail_cons]
    have : a = false ∧ b = false := by
      have h1 := h.2.1
      cases a <;> cases b <;> first | exact ⟨rfl, rfl⟩ | exact absurd (h1 (by simp)) h'
    rw [this.1, this.2]
    simp
theorem resA_cases {r : Bool} {t : List Fl} {x : Nat} {a : List Nat} (h : x :: a = resA r t) :
    (∃ c f g t', t = (c, f, g) :: t' ∧ r = true ∧ x = 10 ∧ a = resA false t) ∨ (∃ c f g t', t = (c, f, g) :: t' ∧ r = false ∧ x = c ∧ a = resA (flA t') t') := by
  cases t with
  | nil => cases h
  | cons y t =>
    obtain ⟨c, f, g⟩ := y
    cases r with
    | true =>
      left
      have : x :: a = 10 :: c :: strA t := h
      injection this with h1 h2
      exact ⟨c, f, g, t, rfl, rfl, h1, h2⟩
    | false =>
      right
      have : x :: a = c :: strA t := h
      injection this with h1 h2
      exact ⟨c, f, g, t, rfl, rfl, h1, h2.trans (strA_res t)⟩
theorem resB_cases {r : Bool} {t : List Fl} {x : Nat} {a : List Nat} (h : x :: a = resB r t) :
    (∃ c f g t', t = (c, f, g) :: t' ∧ r = true ∧ x = 10 ∧ a = resB false t) ∨ (∃ c f g t', t = (c, f, g) :: t' ∧ r = false ∧ x = c ∧ a = resB (flB t') t') := by
  cases t with
  | nil => cases h
  | cons y t =>
    obtain ⟨c, f, g⟩ := y
    cases r with
    | true =>
      left
      have : x :: a = 10 :: c :: strB t := h
      injection this with h1 h2
      exact ⟨c, f, g, t, rfl, rfl, h1, h2⟩
    | false =>
      right
      have : x :: a = c :: strB t := h
      injection this with h1 h2
      exact ⟨c, f, g, t, rfl, rfl, h1, h2.trans (strB_res t)⟩
noncomputable def pay (rA rB : Bool) (t : List Fl) : Nat := match t with
  | [] => 0
  | _ :: t => apart t + (if rA = rB then 0 else 1)
theorem pay_head (t : List Fl) : pay (flA t) (flB t) t = apart t := by
  cases t with
  | nil => rfl
  | cons x t => obtain ⟨c, a, b⟩ := x; rfl
theorem pay_ge (rA rB : Bool) (t : List Fl) : apt t ≤ pay rA rB t := by
  cases t with
  | nil => exact Nat.le_refl _
  | cons x t => exact Nat.le_add_right _ _
noncomputable def P2 (x y : List Nat) (n : Nat) : Prop := ∀ rA rB t u, u ≠ [] → GoodT (u ++ t) → x = resA rA t → y = resB rB (u ++ t) → apt t + 1 ≤ n
noncomputable def P3 (x y : List Nat) (n : Nat) : Prop := ∀ rA rB t u, u ≠ [] → GoodT (u ++ t) → x = resA rA (u ++ t) → y = resB rB t → apt t + 1 ≤ n
noncomputable def Pays (x y : List Nat) (n : Nat) : Prop :=
  (∀ rA rB t, GoodT t → x = resA rA t → y = resB rB t → pay rA rB t ≤ n) ∧ P2 x y n ∧ P3 x y n
noncomputable def sw (t : List Fl) : List Fl := t.map fun z => (z.1, z.2.2, z.2.1)
theorem sw_strA (t : List Fl) : strA (sw t) = strB t := by
  induction t with
  | nil => rfl
  | cons z t ih => exact congrArg (fun l => nlIf z.2.2 ++ z.1 :: l) ih
theorem sw_strB (t : List Fl) : strB (sw t) = strA t := by
  induction t with
  | nil => rfl
  | cons z t ih => exact congrArg (fun l => nlIf z.2.1 ++ z.1 :: l) ih
theorem sw_resA (r : Bool) (t : List Fl) : resA r (sw t) = resB r t := by
  cases t with
  | nil => rfl
  | cons z t => exact congrArg (fun l => nlIf r ++ z.1 :: l) (sw_strA t)
theorem sw_resB (r : Bool) (t : List Fl) : resB r (sw t) = resA r t := by
  cases t with
  | nil => rfl
  | cons z t => exact congrArg (fun l => nlIf r ++ z.1 :: l) (sw_strB t)
theorem add_same {a b c d : Nat} (h : a = b) (e : c = d) : a + c = b + d := by rw [h, e]
theorem ne_swap (a b : Bool) : (if a = b then 0 else 1) = (if b = a then 0 else 1) := by cases a <;> cases b <;> rfl
theorem sw_apart (t : List Fl) : apart (sw t) = apart t := by
  induction t with
  | nil => rfl
  | cons z t ih => exact add_same ih (ne_swap z.2.2 z.2.1)
theorem sw_pay (rA rB : Bool) (t : List Fl) : pay rA rB (sw t) = pay rB rA t := by
  cases t with
  | nil => rfl
  | cons z t => exact add_same (sw_apart t) (ne_swap rA rB)
theorem sw_apt (t : List Fl) : apt (sw t) = apt t := by
  cases t with
  | nil => rfl
  | cons z t => exact sw_apart t
theorem sw_head (t : List Fl) : headS (sw t) = headS t := by cases t <;> rfl
theorem sw_fst (t : List Fl) : (sw t).map Prod.fst = t.map Prod.fst := List.map_map ..
theorem sw_good {t : List Fl} (h : GoodT t) : GoodT (sw t) := by
  induction t with
  | nil => trivial
  | cons z t ih => exact ⟨h.1, fun o => h.2.1 o.symm, fun e => (sw_head t).symm ▸ h.2.2.1 e, fun e => (sw_fst t).symm ▸ h.2.2.2.1 e, ih h.2.2.2.2⟩
theorem sw_app (u t : List Fl) : sw (u ++ t) = sw u ++ sw t := List.map_append
theorem sw_ne {u : List Fl} (h : u ≠ []) : sw u ≠ [] := fun e => h (List.map_eq_nil_iff.mp e)
theorem P2.swap {x y : List Nat} {n : Nat} (h : P2 y x n) : P3 x y n := fun rA rB t u hu hG hx hy =>
  sw_apt t ▸ h rB rA (sw t) (sw u) (sw_ne hu) (sw_app u t ▸ sw_good hG) (hy.trans (sw_resA rB t).symm) (hx.trans ((sw_resB rA (u ++ t)).symm.trans (congrArg (resB rA) (sw_app u t))))
theorem P3.swap {x y : List Nat} {n : Nat} (h : P3 y x n) : P2 x y n := fun rA rB t u hu hG hx hy =>
  sw_apt t ▸ h rB rA (sw t) (sw u) (sw_ne hu) (sw_app u t ▸ sw_good hG) (hy.trans ((sw_resA rB (u ++ t)).symm.trans (congrArg (resA rB) (sw_app u t)))) (hx.trans (sw_resB rA t).symm)
theorem Pays.swap {x y : List Nat} {n : Nat} (h : Pays x y n) : Pays y x n :=
  ⟨fun rA rB t hG hx hy => sw_pay rB rA t ▸ h.1 rB rA (sw t) (sw_good hG) (hy.trans (sw_resA rB t).symm) (hx.trans (sw_resB rA t).symm), h.2.2.swap, h.2.1.swap⟩
theorem pay_flipA (rA rB : Bool) (t : List Fl) : pay true rB t ≤ pay rA rB t + 1 := by
  cases t with
  | nil => exact Nat.zero_le _
  | cons x t => simp only [pay]; (repeat' split) <;> lia
theorem pay_flipB (rA rB : Bool) (t : List Fl) : pay rA true t ≤ pay rA rB t + 1 := by
  cases t with
  | nil => exact Nat.zero_le _
  | cons x t => simp only [pay]; (repeat' split) <;> lia
theorem pay_le (rA rB : Bool) (x : Fl) (t : List Fl) : pay rA rB (x :: t) ≤ apt t + 2 := by
  have := apart_le t
  simp only [pay]
  split <;> lia
theorem apt_cons (x : Fl) (t : List Fl) : apt (x :: t) = apart t := rfl
theorem pays_del {x : Nat} {a y : List Nat} {n : Nat} (ih : Pays a y n) : Pays (x :: a) y (n + 1) := by
  refine ⟨fun rA rB t hG hx hy => ?_, fun rA rB t u hu hG hx hy => ?_, fun rA rB t u hu hG hx hy => ?_⟩
  · rcases resA_cases hx with ⟨c, f, g, t', rfl, rfl, rfl, ha⟩ | ⟨c, f, g, t', rfl, rfl, rfl, ha⟩
    · have := ih.1 false rB _ hG ha hy
      have := pay_flipA false rB ((c, f, g) :: t')
      lia
    · have := ih.2.1 _ rB t' [(x, f, g)] (by simp) hG ha hy
      have := pay_le false rB (x, f, g) t'
      lia
  · rcases resA_cases hx with ⟨c, f, g, t', rfl, rfl, rfl, ha⟩ | ⟨c, f, g, t', rfl, rfl, rfl, ha⟩
    · have := ih.2.1 false rB _ u hu hG ha hy
      lia
    · have := ih.2.1 _ rB t' (u ++ [(x, f, g)]) (by simp) (by simpa using hG) ha (by simpa using hy)
      have := apart_le t'
      rw [apt_cons]
      lia
  · rcases resA_cases hx with ⟨c, f, g, t', ht, rfl, rfl, ha⟩ | ⟨c, f, g, t', ht, rfl, rfl, ha⟩
    · have := ih.2.2 false rB t u hu hG ha hy
      lia
    · cases u with
      | nil => exact absurd rfl hu
      | cons z u =>
        rw [List.cons_append] at ht
        injection ht with hz ht
        subst hz; subst ht
        cases u with
        | nil =>
          have := ih.1 _ rB t hG.2.2.2.2 ha hy
          have := pay_ge (flA ([] ++ t)) rB t
          lia
        | cons z' u =>
          have := ih.2.2 _ rB t (z' :: u) (by simp) hG.2.2.2.2 ha hy
          lia
theorem pays_ins {y : Nat} {a x : List Nat} {n : Nat} (ih : Pays x a n) : Pays x (y :: a) (n + 1) := (pays_del ih.swap).swap
theorem pays_both2 {x y : Nat} {a b : List Nat} {n k : Nat} (ih : Pays a b n) (hk : x ≠ y → k = 1) : P2 (x :: a) (y :: b) (n + k) := by
  intro rA rB t u hu hG hx hy
  rcases resA_cases hx with ⟨c, f, g, t', rfl, rfl, rfl, ha⟩ | ⟨c, f, g, t', rfl, rfl, rfl, ha⟩ <;> rcases resB_cases hy with ⟨c', f', g', t'', ht, rfl, rfl, hb⟩ | ⟨c', f', g', t'', ht, rfl, rfl, hb⟩
  · have := ih.2.1 false false _ u hu hG ha hb
    lia
  · cases u with
    | nil => exact absurd rfl hu
    | cons z u =>
      rw [List.cons_append] at ht
      injection ht with hz ht
      subst hz; subst ht
      have := hk (Ne.symm hG.1)
      cases u with
      | nil =>
        have : pay false (flB ([] ++ (c, f, g) :: t')) ((c, f, g) :: t') ≤ n := ih.1 false _ _ hG.2.2.2.2 ha hb
        have := pay_ge false (flB ([] ++ (c, f, g) :: t')) ((c, f, g) :: t')
        lia
      | cons z' u =>
        have := ih.2.1 false _ _ (z' :: u) (by simp) hG.2.2.2.2 ha hb
        lia
  · have := hk (GoodT.suffix hG).1
    have := ih.2.1 _ false t' (u ++ [(x, f, g)]) (by simp) (by simpa using hG) ha (by simpa using hb)
    have := apart_le t'
    rw [apt_cons]
    lia
  · cases u with
    | nil => exact absurd rfl hu
    | cons z u =>
      rw [List.cons_append] at ht
      injection ht with hz ht
      subst hz; subst ht
      have h1 := ih.2.1 _ _ t' (u ++ [(x, f, g)]) (by simp) (by have := hG.2.2.2.2; simpa using this) ha (by simpa using hb)
      have h2 := apart_le t'
      rw [apt_cons]
      by_cases e : x = y
      · subst e
        have h32 : x = 32 := Classical.byContradiction fun h => hG.2.2.2.1 h (by simp)
        have := apart_same (GoodT.suffix (u := u) hG.2.2.2.2).2.2.2.2 ((GoodT.suffix (u := u) hG.2.2.2.2).2.2.1 h32)
        lia
      · have := hk e
        lia
theorem pays_both {x y : Nat} {a b : List Nat} {n k : Nat} (ih : Pays a b n) (hk : x ≠ y → k = 1) : Pays (x :: a) (y :: b) (n + k) := by
  refine ⟨fun rA rB t hG hx hy => ?_, pays_both2 ih hk, (pays_both2 ih.swap fun h => hk (Ne.symm h)).swap⟩
  · rcases resA_cases hx with ⟨c, f, g, t', rfl, rfl, rfl, ha⟩ | ⟨c, f, g, t', rfl, rfl, rfl, ha⟩ <;> rcases resB_cases hy with ⟨c', f', g', t'', ht, rfl, rfl, hb⟩ | ⟨c', f', g', t'', ht, rfl, rfl, hb⟩ <;> cases ht
    · have := ih.1 false false _ hG ha hb
      have : pay true true ((c, f, g) :: t') = pay false false ((c, f, g) :: t') := rfl
      lia
    · have := hk (Ne.symm hG.1)
      have := ih.2.2 false _ t' [(y, f, g)] (by simp) hG ha hb
      have := pay_le true false (y, f, g) t'
      lia
    · have := hk hG.1
      have := ih.2.1 _ false t' [(x, f, g)] (by simp) hG ha hb
      have := pay_le false true (x, f, g) t'
      lia
    · have := ih.1 _ _ t' hG.2.2.2.2 ha hb
      rw [pay_head] at this
      have : ∀ z, pay false false ((z, f, g) :: t') = apart t' := fun _ => rfl
      have := this x
      lia
theorem pays {x y : List Nat} {n : Nat} (h : Ed x y n) : Pays x y n := by
  induction h with
  | nil =>
    have nx : ∀ {r : Bool} {t : List Fl}, [] = resA r t → t = [] := by
      intro r t h
      cases t with
      | nil => rfl
      | cons z t => obtain ⟨c, f, g⟩ := z; cases r <;> cases h
    have ny : ∀ {r : Bool} {t : List Fl}, [] = resB r t → t = [] := by
      intro r t h
      cases t with
      | nil => rfl
      | cons z t => obtain ⟨c, f, g⟩ := z; cases r <;> cases h
    refine ⟨fun rA rB t hG hx hy => ?_, fun rA rB t u hu hG hx hy => ?_, fun rA rB t u hu hG hx hy => ?_⟩
    · rw [nx hx]; exact Nat.le_refl _
    · exact absurd (List.append_eq_nil_iff.mp (ny hy)).1 hu
    · exact absurd (List.append_eq_nil_iff.mp (nx hx)).1 hu
  | del x h ih => exact pays_del ih
  | ins y h ih => exact pays_ins ih
  | sub x y h ih => exact pays_both ih fun _ => rfl
  | keep x h ih => exact pays_both (k := 0) ih fun h => absurd rfl h
theorem ed_low {t : List Fl} {n : Nat} (G : GoodT t) (h : Ed (strA t) (strB t) n) : apart t ≤ n := by
  have := (pays h).1 (flA t) (flB t) t G (strA_res t) (strB_res t)
  rwa [pay_head] at this
theorem ed_up : ∀ t : List Fl, Ed (strA t) (strB t) (apart t)
  | [] => .nil
  | (c, a, b) :: t => by
    have ih := Ed.keep c (ed_up t)
    cases a <;> cases b <;> simp only [strA, strB, nlIf, apart, if_true, if_false, Bool.false_eq_true, List.nil_append, List.singleton_append, reduceCtorEq, Nat.add_zero]
    · exact ih
    · exact .ins 10 ih
    · exact .del 10 ih
    · exact .keep 10 ih
end Mine
end
section
open PySem PySem.W PySem.Spec
namespace Mine
noncomputable def Is (a b : List Nat) (v : Int) : Prop := ∃ n : Nat, v = 2 * (n : Int) ∧ Ed a b n ∧ ∀ m, Ed a b m → n ≤ m
theorem Is.symm {a b : List Nat} {v : Int} (h : Is a b v) : Is b a v := by
  obtain ⟨n, e, h, hm⟩ := h
  exact ⟨n, e, h.symm, fun m h => hm m h.symm⟩
theorem Is.reverse {a b : List Nat} {v : Int} (h : Is a b v) : Is a.reverse b.reverse v := by
  obtain ⟨n, e, h, hm⟩ := h
  exact ⟨n, e, h.reverse, fun m h => hm m (Ed.reverse_iff.mp h)⟩
theorem Is.le {a b : List Nat} {v : Int} (h : Is a b v) {m : Nat} (h' : Ed a b m) : v ≤ 2 * (m : Int) := by
  obtain ⟨n, e, h, hm⟩ := h
  have := hm m h'
  lia
theorem Is.uniq {a b : List Nat} {v v' : Int} (h : Is a b v) (h' : Is a b v') : v = v' := by
  obtain ⟨n, e, h, hm⟩ := h
  obtain ⟨n', e', h', hm'⟩ := h'
  have := hm _ h'
  have := hm' _ h
  lia
theorem is_nil_left (b : List Nat) : Is [] b (2 * (b.length : Int)) := ⟨_, rfl, Ed.to_nil b, fun m h => by rw [h.nil_left]; exact Nat.le_refl _⟩
theorem is_nil_right (a : List Nat) : Is a [] (2 * (a.length : Int)) := (is_nil_left a).symm
noncomputable def minI (a b : Int) : Int := if a < b then a else b
noncomputable def costN (x y : Nat) : Int := if y = x then 0 else 2
theorem minI_le1 (a b : Int) : minI a b ≤ a := by unfold minI; split <;> lia
theorem minI_le2 (a b : Int) : minI a b ≤ b := by unfold minI; split <;> lia
theorem costN_le (x y : Nat) : costN x y ≤ 2 := by unfold costN; split <;> decide
theorem costN_self (x : Nat) : costN x x = 0 := by unfold costN; rw [if_pos rfl]
theorem is_cell {a b : List Nat} {x y : Nat} {d u l : Int} (hd : Is a b d) (hu : Is (x :: a) b u) (hl : Is a (y :: b) l ∨ a = [] ∧ l = 2 * (b.length : Int)) : Is (x :: a) (y :: b) (minI (d + costN x y) (minI u l + 2)) := by
  obtain ⟨nd, rfl, ed, md⟩ := hd
  obtain ⟨nu, rfl, eu, mu⟩ := hu
  have low : ∀ m, Ed (x :: a) (y :: b) m → minI (2 * (nd : Int) + costN x y) (minI (2 * (nu : Int)) l + 2) ≤ 2 * (m : Int) := by
    intro m hm
    have m1 := minI_le1 (2 * (nd : Int) + costN x y) (minI (2 * (nu : Int)) l + 2)
    have m2 := minI_le2 (2 * (nd : Int) + costN x y) (minI (2 * (nu : Int)) l + 2)
    have m3 := minI_le1 (2 * (nu : Int)) l
    have m4 := minI_le2 (2 * (nu : Int)) l
    generalize minI (2 * (nd : Int) + costN x y) (minI (2 * (nu : Int)) l + 2) = M at m1 m2 ⊢
    generalize minI (2 * (nu : Int)) l = M' at m2 m3 m4
    cases hm with
    | @del _ _ _ m h =>
      have : l ≤ 2 * (m : Int) := by
        rcases hl with hl | ⟨rfl, rfl⟩
        · exact hl.le h
        · have := h.nil_left
          simp only [List.length_cons] at this
          lia
      clear m1 m3
      lia
    | @ins _ _ _ m h => have := mu _ h; clear m1 m4; lia
    | @sub _ _ _ _ m h => have := md _ h; have := costN_le x y; clear m2 m3 m4; lia
    | @keep _ _ _ m h => have := md _ h; rw [costN_self] at m1; clear m2 m3 m4; lia
  have s1 : Ed (x :: a) (y :: b) (nu + 1) := .ins y eu
  have s2 : ∃ k : Nat, l + 2 = 2 * (k : Int) ∧ Ed (x :: a) (y :: b) k := by
    rcases hl with ⟨k, rfl, h, _⟩ | ⟨rfl, rfl⟩
    · exact ⟨k + 1, by lia, .del x h⟩
    · exact ⟨b.length + 1, by lia, .sub x y (Ed.to_nil b)⟩
  have s3 : ∃ k : Nat, 2 * (nd : Int) + costN x y = 2 * (k : Int) ∧ Ed (x :: a) (y :: b) k := by
    unfold costN
    by_cases e : y = x
    · subst e; exact ⟨nd, by rw [if_pos rfl]; lia, .keep y ed⟩
    · exact ⟨nd + 1, by rw [if_neg e]; lia, .sub x y ed⟩
  obtain ⟨k2, h2, s2⟩ := s2
  obtain ⟨k3, h3, s3⟩ := s3
  have up : ∃ k : Nat, minI (2 * (nd : Int) + costN x y) (minI (2 * (nu : Int)) l + 2) = 2 * (k : Int) ∧ Ed (x :: a) (y :: b) k := by
    have alt : ∀ p q : Int, minI p q = p ∨ minI p q = q := fun p q => by unfold minI; split <;> simp
    rcases alt (2 * (nd : Int) + costN x y) (minI (2 * (nu : Int)) l + 2) with e | e
    · exact ⟨k3, e.trans h3, s3⟩
    · rcases alt (2 * (nu : Int)) l with e' | e'
      · exact ⟨nu + 1, by lia, s1⟩
      · exact ⟨k2, by lia, s2⟩
  obtain ⟨k, hk, s⟩ := up
  refine ⟨k, hk, s, fun m hm => ?_⟩
  have := low m hm
  lia
noncomputable def pre (x : Str) (i : Nat) : List Nat := (x.cps.toList.take i).reverse
theorem pre_zero (x : Str) : pre x 0 = [] := rfl
theorem pre_succ {x : Str} {i : Nat} (h : i < x.length) : pre x (i + 1) = x.cps.getD i 0 :: pre x i := by
  have h' : i < x.cps.size := h
  unfold pre
  rw [List.take_add_one, Array.getElem?_toList, Array.getD_eq_getD_getElem?, Array.getElem?_eq_getElem h']
  simp
theorem pre_len {x : Str} {i : Nat} (h : i ≤ x.length) : (pre x i).length = i := by
  have h' : i ≤ x.cps.size := h
  simp [pre, Nat.min_eq_left h']
theorem pre_all (x : Str) : pre x x.length = x.cps.toList.reverse := by
  unfold pre
  rw [List.take_of_length_le]
  simp [Str.length]
noncomputable def RowIs (x y : Str) (j : Nat) (ns : List Int) : Prop := ns.length = x.length ∧ ∀ k, k < x.length → Is (pre x (k + 1)) (pre y j) (ns.getD k 0)
theorem row0_is (x y : Str) : RowIs x y 0 (row0 x) := by
  refine ⟨by simp [row0], fun k hk => ?_⟩
  have : (row0 x).getD k 0 = 2 * ((pre x (k + 1)).length : Int) := by
    rw [pre_len (by lia)]
    simp [row0, hk]
    lia
  rw [this, pre_zero]
  exact is_nil_right _
noncomputable def InIs (x y : Str) (j i : Nat) (st : Int × Int × Int × List Int) : Prop :=
  Is (pre x i) (pre y j) st.1 ∧ (i = 0 ∧ st.2.1 = 2 * (j : Int) ∨ 0 < i ∧ Is (pre x i) (pre y (j + 1)) st.2.1) ∧ st.2.2.2.length = x.length ∧
  (∀ k, k < i → Is (pre x (k + 1)) (pre y (j + 1)) (st.2.2.2.getD k 0) ∧ st.2.2.1 ≤ st.2.2.2.getD k 0) ∧ (∀ k, i ≤ k → k < x.length → Is (pre x (k + 1)) (pre y j) (st.2.2.2.getD k 0))
theorem inRow_is {x y : Str} {j : Nat} (hj : j < y.length) {ns : List Int} (R : RowIs x y j ns) : ∀ i, i ≤ x.length → InIs x y j i (inRow x (Txt.item y (j : Int)) i ((j : Int) * 2, (j : Int) * 2, 9223372036854775807, ns))
  | 0, _ => by
    refine ⟨?_, .inl ⟨rfl, Int.mul_comm _ _⟩, R.1, fun k hk => absurd hk (Nat.not_lt_zero _), fun k _ hk => R.2 k hk⟩
    show Is (pre x 0) (pre y j) ((j : Int) * 2)
    have := is_nil_left (pre y j)
    rw [pre_len (by lia)] at this
    rw [Int.mul_comm]
    exact this
  | i + 1, hi => by
    have ih := inRow_is hj R i (by lia)
    rw [inRow_next]
    generalize inRow x (Txt.item y (j : Int)) i ((j : Int) * 2, (j : Int) * 2, 9223372036854775807, ns) = st at ih
    obtain ⟨d, r, mn, ms⟩ := st
    obtain ⟨h1, h2, h3, h4, h5⟩ := ih
    dsimp only at h1 h2 h3 h4 h5
    have e : newR x (Txt.item y (j : Int)) d r ms i = minI (d + costN (x.cps.getD i 0) (y.cps.getD j 0)) (minI (ms.getD i 0) r + 2) := by
      unfold newR minI costN costOf
      rw [item_at (x := x) (by lia), item_at hj, show ((i : Int)).toNat = i from Int.toNat_natCast i]
      have hc : ((⟨#[y.cps.getD j 0]⟩ : Str) = ⟨#[x.cps.getD i 0]⟩) = (y.cps.getD j 0 = x.cps.getD i 0) := by simp
      simp only [hc]
    have hnew : Is (pre x (i + 1)) (pre y (j + 1)) (newR x (Txt.item y (j : Int)) d r ms i) := by
      rw [e, pre_succ (x := x) (by lia), pre_succ hj]
      refine is_cell h1 ?_ ?_
      · rw [← pre_succ (x := x) (by lia)]; exact h5 i (Nat.le_refl _) (by lia)
      · rw [← pre_succ hj]
        rcases h2 with ⟨rfl, rfl⟩ | ⟨_, h2⟩
        · right; exact ⟨rfl, by rw [pre_len (by lia)]⟩
        · left; exact h2
    have hi' : i < ms.length := by lia
    have gi : ∀ v, (ms.set i v).getD i 0 = v := fun v => by simp [hi']
    have gk : ∀ v k, k ≠ i → (ms.set i v).getD k 0 = ms.getD k 0 := fun v k hk => by simp [Ne.symm hk]
    have hup : Is (pre x (i + 1)) (pre y j) (ms.getD i 0) := h5 i (Nat.le_refl _) (by lia)
    unfold inStep
    dsimp only
    rw [show ((i : Int)).toNat = i from Int.toNat_natCast i]
    generalize newR x (Txt.item y (j : Int)) d r ms i = v at hnew
    refine ⟨hup, .inr ⟨Nat.succ_pos _, hnew⟩, by simpa using h3, fun k hk => ?_, fun k hk hk' => ?_⟩
    · dsimp only
      by_cases ek : k = i
      · subst ek
        rw [gi]
        exact ⟨hnew, by split <;> lia⟩
      · rw [gk _ _ ek]
        have := h4 k (by lia)
        exact ⟨this.1, by have := this.2; split <;> lia⟩
    · dsimp only
      rw [gk _ _ (by lia)]
      exact h5 k (by lia) hk'
theorem row_low {x y : Str} {v mc : Int} {j : Nat} (hj : j < y.length) (hx : 0 < x.length) (hv : Is x.cps.toList.reverse y.cps.toList.reverse v) (hmc : v ≤ mc) {st : Int × Int × Int × List Int} (I : InIs x y j x.length st) : ¬ mc < st.2.2.1 := by
  obtain ⟨n, rfl, h, -⟩ := hv
  have hs : y.cps.toList.reverse = (y.cps.toList.drop (j + 1)).reverse ++ pre y (j + 1) := by
    unfold pre
    rw [← List.reverse_append, List.take_append_drop]
  rw [hs] at h
  obtain ⟨r, a', m, ha, hm, h⟩ := h.row
  have ha' : ∃ k, k ≤ x.length ∧ a' = pre x k := by
    refine ⟨a'.length, ?_, ?_⟩
    · have := congrArg List.length ha
      simp only [List.length_reverse, Array.length_toList, List.length_append] at this
      have : x.length = x.cps.size := rfl
      lia
    · have h1 := congrArg List.reverse ha
      rw [List.reverse_reverse, List.reverse_append] at h1
      unfold pre
      rw [h1, List.take_append_of_le_length (by simp), List.take_of_length_le (by simp), List.reverse_reverse]
  obtain ⟨k, hk, rfl⟩ := ha'
  obtain ⟨-, -, -, h4, -⟩ := I
  have : ∃ k, k < x.length ∧ ∃ m, m ≤ n ∧ Ed (pre x (k + 1)) (pre y (j + 1)) m := by
    cases k with
    | succ k => exact ⟨k, by lia, m, hm, h⟩
    | zero =>
      refine ⟨0, hx, m, hm, ?_⟩
      have e := h.nil_left
      rw [pre_len (by lia)] at e
      rw [e, pre_succ hx, pre_succ hj]
      have := Ed.sub (x.cps.getD 0 0) (y.cps.getD j 0) (Ed.to_nil (pre y j))
      rwa [pre_len (by lia)] at this
  obtain ⟨k, hk, m, hm, h⟩ := this
  have := h4 k hk
  have := this.1.le h
  lia
theorem outGo_is {x y : Str} {v mc : Int} (hx : 0 < x.length) (hv : Is x.cps.toList.reverse y.cps.toList.reverse v) (hmc : v ≤ mc) : ∀ (d j : Nat) (ns : List Int) (res : Int), j + d = y.length → RowIs x y j ns → (0 < j → Is (pre x x.length) (pre y j) res) → 0 < y.length → outGo x y mc ((List.range y.length).drop j) ns res = v
  | 0, j, ns, res, hd, R, hr, hy => by
    rw [List.drop_of_length_le (by rw [List.length_range]; lia)]
    show res = v
    have := hr (by lia)
    rw [show j = y.length by lia, pre_all, pre_all] at this
    exact this.uniq hv
  | d + 1, j, ns, res, hd, R, hr, hy => by
    have hj : j < y.length := by lia
    rw [outGo_at hj]
    have I := inRow_is hj R x.length (Nat.le_refl _)
    generalize inRow x (Txt.item y (j : Int)) x.length ((j : Int) * 2, (j : Int) * 2, 9223372036854775807, ns) = st at I
    rw [if_neg (row_low hj hx hv hmc I)]
    obtain ⟨-, h2, h3, h4, -⟩ := I
    refine outGo_is hx hv hmc d (j + 1) _ _ (by lia) ⟨h3, fun k hk => (h4 k hk).1⟩ (fun _ => ?_) hy
    rcases h2 with ⟨h, -⟩ | ⟨-, h⟩
    · lia
    · exact h
theorem levRows_is {x y : Str} {v mc : Int} (hx : 0 < x.length) (hy : 0 < y.length) (hv : Is x.cps.toList y.cps.toList v) (hmc : v ≤ mc) : levRows x y mc = v := by
  have := outGo_is hx hv.reverse hmc y.length 0 (row0 x) 0 (by lia) (row0_is x y) (fun h => absurd h (Nat.lt_irrefl _)) hy
  rw [List.drop_zero] at this
  exact this
theorem loS_is {a b : Str} {v : Int} (h : Is a.cps.toList b.cps.toList v) : Is (loS a b).cps.toList (hiS a b).cps.toList v := by
  unfold loS hiS
  split
  · exact h.symm
  · exact h
theorem levRest_is {a b : Str} {v mc : Int} (h : Is a.cps.toList b.cps.toList v) (hmc : v ≤ mc) : levRest a b mc = v := by
  have la : a.length = a.cps.toList.length := by rw [Array.length_toList]; rfl
  have lb : b.length = b.cps.toList.length := by rw [Array.length_toList]; rfl
  by_cases h0 : (a.length : Int) = 0 ∨ (b.length : Int) = 0
  · rw [levRest_nil h0]
    rcases h0 with h0 | h0
    · have e : a.cps.toList = [] := List.length_eq_zero_iff.mp (by lia)
      rw [e] at h
      rw [h.uniq (is_nil_left _)]
      lia
    · have e : b.cps.toList = [] := List.length_eq_zero_iff.mp (by lia)
      rw [e] at h
      rw [h.uniq (is_nil_right _)]
      lia
  · have h0a : (a.length : Int) ≠ 0 := fun e => h0 (.inl e)
    have h0b : (b.length : Int) ≠ 0 := fun e => h0 (.inr e)
    have hh := loS_is h
    have ll : (loS a b).length = (loS a b).cps.toList.length := by rw [Array.length_toList]; rfl
    have lh : (hiS a b).length = (hiS a b).cps.toList.length := by rw [Array.length_toList]; rfl
    have pos : 0 < (loS a b).length ∧ 0 < (hiS a b).length := by
      unfold loS hiS
      split <;> lia
    rw [levRest_go h0a h0b]
    · exact levRows_is pos.1 pos.2 hh hmc
    · obtain ⟨n, rfl, e, -⟩ := hh
      have := e.len
      lia
end Mine
end
section
open PySem PySem.W PySem.Spec
namespace Mine
theorem len_list (x : Str) : x.cps.toList.length = x.length := by rw [Array.length_toList]; rfl
theorem take_same {a b : List Nat} {p : Nat} (h : a.take p = b.take p) (ha : p < a.length) (hb : p < b.length) (e : a.getD p 0 = b.getD p 0) : a.take (p + 1) = b.take (p + 1) := by
  rw [List.take_add_one, List.take_add_one, h]
  rw [List.getD_eq_getElem?_getD, List.getD_eq_getElem?_getD, List.getElem?_eq_getElem ha, List.getElem?_eq_getElem hb] at e
  rw [List.getElem?_eq_getElem ha, List.getElem?_eq_getElem hb]
  simp only [Option.getD_some] at e
  rw [e]
theorem drop_same {a b : List Nat} {p q : Nat} (h : a.drop (p + 1) = b.drop (q + 1)) (ha : p < a.length) (hb : q < b.length) (e : a.getD p 0 = b.getD q 0) : a.drop p = b.drop q := by
  rw [List.drop_eq_getElem_cons ha, List.drop_eq_getElem_cons hb, h]
  rw [List.getD_eq_getElem?_getD, List.getD_eq_getElem?_getD, List.getElem?_eq_getElem ha, List.getElem?_eq_getElem hb] at e
  simp only [Option.getD_some] at e
  rw [e]
theorem getD_list (x : Str) (i : Nat) : x.cps.getD i 0 = x.cps.toList.getD i 0 := by
  rw [Array.getD_eq_getD_getElem?, List.getD_eq_getElem?_getD, Array.getElem?_toList]
theorem str_one {c d : Nat} (h : (⟨#[c]⟩ : Str) = ⟨#[d]⟩) : c = d := by simpa using h
theorem preGo_same {a b : Str} (n : Nat) : ∀ p : Nat, p + n = a.length → p ≤ b.length → a.cps.toList.take p = b.cps.toList.take p → ∃ q : Nat, preGo a b n (p : Int) = q ∧ q ≤ a.length ∧ q ≤ b.length ∧ a.cps.toList.take q = b.cps.toList.take q := by
  induction n with
  | zero => exact fun p h hb e => ⟨p, rfl, Nat.le_of_eq h, hb, e⟩
  | succ n ih =>
    intro p h hb e
    by_cases hc : preCond a b (p : Int) = true
    · rw [preGo_go hc]
      unfold preCond at hc
      simp only [Bool.and_eq_true, decide_eq_true_eq] at hc
      obtain ⟨h1, h2, h3⟩ := hc
      have h1' := Int.ofNat_lt.mp h1
      have h2' := Int.ofNat_lt.mp h2
      have h3' := eq_of_beq h3
      rw [item_at h1', item_at h2'] at h3'
      have h4 := str_one h3'
      rw [getD_list, getD_list] at h4
      exact ih (p + 1) (by rw [← h, Nat.succ_add]; rfl) h2' (take_same e (by rw [len_list]; exact h1') (by rw [len_list]; exact h2') h4)
    · rw [preGo_stop (by simpa using hc)]
      exact ⟨p, rfl, h ▸ Nat.le_add_right p _, hb, e⟩
theorem seqIndex_neg {q n : Nat} (h0 : 0 < q) (h : q ≤ n) : PySem.seqIndex? (-(q : Int)) n = some (n - q) := by
  unfold PySem.seqIndex?
  dsimp only
  rw [if_pos (show -(q : Int) < 0 from Int.neg_neg_of_pos (Int.ofNat_lt.mpr h0))]
  exact seqIndex_nat (by rw [Int.ofNat_sub h, Int.add_comm, ← Int.sub_eq_add_neg]) (Nat.sub_lt_of_pos_le h0 h)
theorem item_neg {x : Str} {q : Nat} (h0 : 0 < q) (h : q ≤ x.length) : Txt.item x (-(q : Int)) = ⟨#[x.cps.getD (x.length - q) 0]⟩ := by
  unfold Txt.item Txt.charAt
  have h' : x.length - q < x.cps.size := Nat.sub_lt_of_pos_le h0 h
  rw [seqIndex_neg h0 h]
  simp [h']
theorem cutTo_list {x : Str} {q : Nat} (h : q ≤ x.length) : (cutTo x (-(q : Int))).cps.toList = x.cps.toList.take (x.length - q) := by
  cases q with
  | zero => rw [show -((0 : Nat) : Int) = 0 from rfl, cutTo_zero, Nat.sub_zero, List.take_of_length_le (Nat.le_of_eq (len_list x))]
  | succ q =>
    have h0 : -((q + 1 : Nat) : Int) < 0 := Int.neg_neg_of_pos (Int.ofNat_lt.mpr (Nat.succ_pos q))
    rw [cutTo_neg h0, slice_to h0, ← Int.sub_eq_add_neg, ← Int.ofNat_sub h]
    rfl
theorem cutTo_size {x : Str} {q : Nat} (h : q ≤ x.length) : (cutTo x (-(q : Int))).length = x.length - q := by
  rw [← len_list, cutTo_list h, List.length_take, len_list]
  exact Nat.min_eq_left (Nat.sub_le _ _)
theorem up_one {n q : Nat} (h : n - q ≠ 0) : q + 1 ≤ n := Nat.lt_of_sub_ne_zero h
theorem sub_up {n q : Nat} (h : q + 1 ≤ n) : n - (q + 1) + 1 = n - q := by rw [Nat.sub_add_eq]; exact Nat.sub_add_cancel (Nat.sub_pos_of_lt h)
theorem postGo_same {a b : Str} (n : Nat) : ∀ q : Nat, n + q = a.length → q ≤ b.length → a.cps.toList.drop (a.length - q) = b.cps.toList.drop (b.length - q) →
    ∃ r : Nat, postGo a b n (-(q : Int)) = -(r : Int) ∧ r ≤ a.length ∧ r ≤ b.length ∧ a.cps.toList.drop (a.length - r) = b.cps.toList.drop (b.length - r) := by
  induction n with
  | zero => exact fun q h hb e => ⟨q, rfl, h ▸ Nat.le_add_left q 0, hb, e⟩
  | succ n ih =>
    intro q h hb e
    have ha : q ≤ a.length := h ▸ Nat.le_add_left q _
    by_cases hc : postCond a b (-(q : Int)) = true
    · rw [postGo_go hc]
      unfold postCond at hc
      simp only [Bool.and_eq_true, decide_eq_true_eq] at hc
      obtain ⟨h1, h2, h3⟩ := hc
      rw [cutTo_size ha] at h1
      rw [cutTo_size hb] at h2
      have ha' := up_one h1
      have hb' := up_one h2
      have h3' := eq_of_beq h3
      rw [show (-(q : Int) - 1) = -((q + 1 : Nat) : Int) from Int.neg_add.symm] at h3' ⊢
      rw [item_neg (Nat.succ_pos q) ha', item_neg (Nat.succ_pos q) hb'] at h3'
      have h4 := str_one h3'
      rw [getD_list, getD_list] at h4
      refine ih (q + 1) (by rw [← h, Nat.succ_add]; rfl) hb' (drop_same ?_ (by rw [len_list]; exact Nat.sub_lt_of_pos_le (Nat.succ_pos q) ha') (by rw [len_list]; exact Nat.sub_lt_of_pos_le (Nat.succ_pos q) hb') h4)
      rw [sub_up ha', sub_up hb']
      exact e
    · rw [postGo_stop (by simpa using hc)]
      exact ⟨q, rfl, ha, hb, e⟩
theorem Is.core {p a b s : List Nat} {v : Int} (h : Is (p ++ a ++ s) (p ++ b ++ s) v) : Is a b v := by
  obtain ⟨n, rfl, e, hm⟩ := h
  obtain ⟨m, h1, e1⟩ := e.cancelR
  obtain ⟨k, h2, e2⟩ := e1.cancelL
  have := hm k (by have := ((Ed.refl p).append e2).append (Ed.refl s); simpa using this)
  have : k = n := by lia
  subst this
  refine ⟨k, rfl, e2, fun m h => hm m ?_⟩
  have := ((Ed.refl p).append h).append (Ed.refl s)
  simpa using this
theorem levPure_is {a b : Str} {v mc : Int} (h : Is a.cps.toList b.cps.toList v) (hmc : v ≤ mc) : levPure a b mc = v := by
  by_cases e : a = b
  · subst e
    unfold levPure
    rw [if_pos rfl]
    have := h.le (Ed.refl _)
    obtain ⟨n, rfl, -⟩ := h
    lia
  · obtain ⟨p, hp, hpa, hpb, hpe⟩ := preGo_same (a := a) (b := b) a.length 0 (by lia) (by lia) (by simp)
    have hp' : preOf a b = (p : Int) := hp
    have sa : (Txt.slice a (some (p : Int)) none).cps.toList = a.cps.toList.drop p := by rw [slice_from (by lia) (by lia)]; rfl
    have sb : (Txt.slice b (some (p : Int)) none).cps.toList = b.cps.toList.drop p := by rw [slice_from (by lia) (by lia)]; rfl
    rw [levPure_eq e (by rw [hp']) (by rw [hp']) rfl rfl rfl]
    generalize Txt.slice a (some (p : Int)) none = a2 at sa
    generalize Txt.slice b (some (p : Int)) none = b2 at sb
    obtain ⟨q, hq, hqa, hqb, hqe⟩ := postGo_same (a := a2) (b := b2) a2.length 0 (by lia) (by lia) (by rw [List.drop_of_length_le (by rw [len_list]; lia), List.drop_of_length_le (by rw [len_list]; lia)])
    have hq' : postOf a2 b2 = -(q : Int) := hq
    rw [hq']
    refine levRest_is (Is.core (p := a.cps.toList.take p) (s := a2.cps.toList.drop (a2.length - q)) ?_) hmc
    rw [cutTo_list hqa, cutTo_list hqb, List.append_assoc, List.append_assoc, List.take_append_drop, hqe, List.take_append_drop, sa, sb, List.take_append_drop, hpe, List.take_append_drop]
    exact h
theorem levPure_told {a b : Str} {t : List Fl} (G : GoodT t) (ha : a.cps.toList = strA t) (hb : b.cps.toList = strB t) : levPure a b (2 * (apart t : Int)) = 2 * (apart t : Int) := by
  refine levPure_is ?_ (Int.le_refl _)
  rw [ha, hb]
  exact ⟨apart t, rfl, ed_up t, fun m h => ed_low G h⟩
end Mine
end
section
namespace Mine
noncomputable abbrev Sg := Nat × Bool
noncomputable def toldL : List Sg → List Nat
  | [] => []
  | (c, e) :: r => nlIf e ++ c :: toldL r
noncomputable def hidN (cl m c : Nat) : Bool := decide (m < cl) && (c == 34 || m % 2 == 1)
noncomputable def mk34 (m c : Nat) : Nat := if c = 34 then m + 1 else m
noncomputable def hidL (cl : Nat) : Nat → List Nat → List Bool
  | _, [] => []
  | m, c :: r => hidN cl m c :: hidL cl (mk34 m c) r
noncomputable def vis (cl : Nat) : Nat → List Nat → List Nat
  | _, [] => []
  | m, c :: r => if hidN cl m c then vis cl (mk34 m c) r else c :: vis cl (mk34 m c) r
noncomputable def visF (cl : Nat) : Nat → List Sg → List Sg
  | _, [] => []
  | m, (c, e) :: r => if hidN cl m c then visF cl (mk34 m c) r else (c, e) :: visF cl (mk34 m c) r
theorem visF_map (cl : Nat) : ∀ (m : Nat) (F : List Sg), (visF cl m F).map Prod.fst = vis cl m (F.map Prod.fst)
  | _, [] => rfl
  | m, (c, e) :: r => by
    simp only [visF, vis, List.map_cons]
    split
    · exact visF_map cl _ r
    · rw [List.map_cons, visF_map cl _ r]
noncomputable def AtBlank (F : List Sg) : Prop := ∀ p ∈ F, p.2 = true → p.1 = 32
theorem vis_told (cl : Nat) : ∀ (m : Nat) (F : List Sg), AtBlank F → vis cl m (toldL F) = toldL (visF cl m F)
  | _, [], _ => rfl
  | m, (c, e) :: r, h => by
    have ih := vis_told cl (mk34 m c) r (fun p hp => h p (.tail _ hp))
    cases e with
    | false =>
      simp only [toldL, nlIf, visF, vis, Bool.false_eq_true, if_false, List.nil_append]
      split
      · exact ih
      · rw [ih]; rfl
    | true =>
      have hc : c = 32 := h _ (.head _) rfl
      subst hc
      have e1 : mk34 m 10 = m := rfl
      have e2 : hidN cl m 10 = hidN cl m 32 := rfl
      simp only [toldL, nlIf, visF, vis, if_true, List.singleton_append, e1, e2]
      split
      · exact ih
      · rw [ih]; rfl
theorem told_count : ∀ F : List Sg, (toldL F).count 34 = (F.map Prod.fst).count 34
  | [] => rfl
  | (c, e) :: r => by
    have ih := told_count r
    cases e <;> simp [toldL, nlIf, List.count_cons, ih]
theorem told_len : ∀ F : List Sg, (toldL F).length = F.length + (F.filter (·.2)).length
  | [] => rfl
  | (c, e) :: r => by
    have ih := told_len r
    cases e <;> simp [toldL, nlIf, ih] <;> lia
theorem told_mem {F : List Sg} {x : Nat} : x ∈ toldL F → x = 10 ∨ x ∈ F.map Prod.fst := by
  induction F with
  | nil => intro h; cases h
  | cons p r ih =>
    obtain ⟨c, e⟩ := p
    intro h
    unfold toldL at h
    rcases List.mem_append.mp h with h | h
    · cases e
      · cases h
      · exact .inl (List.mem_singleton.mp h)
    · rcases List.mem_cons.mp h with rfl | h
      · exact .inr (.head _)
      · rcases ih h with h | h
        · exact .inl h
        · exact .inr (.tail _ h)
noncomputable def posFrom : Nat → List Sg → List Int
  | _, [] => []
  | k, (_, e) :: r => if e then (k : Int) :: posFrom (k + 1) r else posFrom (k + 1) r
theorem posFrom_cons (k c : Nat) (e : Bool) (r : List Sg) : posFrom k ((c, e) :: r) = if e then (k : Int) :: posFrom (k + 1) r else posFrom (k + 1) r := rfl
theorem posFrom_ge : ∀ (k : Nat) (F : List Sg), ∀ s ∈ posFrom k F, (k : Int) ≤ s ∧ s < (k : Int) + F.length
  | _, [], s, h => nomatch h
  | k, (_, e) :: r, s, h => by
    have ih := posFrom_ge (k + 1) r
    unfold posFrom at h
    simp only [List.length_cons]
    split at h
    · rcases List.mem_cons.mp h with rfl | h
      · lia
      · have := ih s h; lia
    · have := ih s h; lia
theorem posFrom_len : ∀ (k : Nat) (F : List Sg), (posFrom k F).length = (F.filter (·.2)).length
  | _, [] => rfl
  | k, (c, e) :: r => by
    have ih := posFrom_len (k + 1) r
    cases e <;> simp [posFrom, ih]
theorem posFrom_mem : ∀ (k : Nat) (F : List Sg) (i : Nat), ((k + i : Nat) : Int) ∈ posFrom k F ↔ (F.getD i (0, false)).2 = true
  | _, [], i => by simp [posFrom]
  | k, (c, e) :: r, i => by
    cases i with
    | zero =>
      have : ((k + 0 : Nat) : Int) ∉ posFrom (k + 1) r := fun h => by have := posFrom_ge _ _ _ h; lia
      cases e
      · simp only [posFrom, Bool.false_eq_true, if_false, List.getD_cons_zero, iff_false]; exact this
      · simp [posFrom]
    | succ i =>
      have ih := posFrom_mem (k + 1) r i
      rw [show k + 1 + i = k + (i + 1) by lia] at ih
      rw [List.getD_cons_succ, ← ih, posFrom_cons]
      split
      · rw [List.mem_cons]
        exact ⟨fun h => h.resolve_left (by lia), .inr⟩
      · exact Iff.rfl
theorem range_list {α β : Type} (l : List α) (d : α) (f : α → β) : (List.range l.length).map (fun i => f (l.getD i d)) = l.map f := by
  apply List.ext_getElem?
  intro j
  by_cases hj : j < l.length
  · simp [hj]
  · simp [hj]
theorem range_sel {α β : Type} (l : List α) (d : α) (p : α → Bool) (f : α → β) : ((List.range l.length).filter (fun i => p (l.getD i d))).map (fun i => f (l.getD i d)) = (l.filter p).map f := by
  have h := range_list l d id
  rw [List.map_id] at h
  conv => rhs; rw [← h]
  rw [List.filter_map, List.map_map]
  rfl
theorem told_flat (F : List Sg) : toldL F = F.flatMap fun p => nlIf p.2 ++ [p.1] := by
  induction F with
  | nil => rfl
  | cons p r ih => obtain ⟨c, e⟩ := p; simp [toldL, ih]
noncomputable def idx (p : Nat → Bool) : Nat → List Nat → List Int
  | _, [] => []
  | k, c :: r => if p c then (k : Int) :: idx p (k + 1) r else idx p (k + 1) r
theorem idx_cons (p : Nat → Bool) (k c : Nat) (r : List Nat) : idx p k (c :: r) = if p c then (k : Int) :: idx p (k + 1) r else idx p (k + 1) r := rfl
theorem range_idx (p : Nat → Bool) (l : List Nat) : ∀ k, ((List.range l.length).filter fun i => p (l.getD i 0)).map (fun i => ((k + i : Nat) : Int)) = idx p k l := by
  induction l with
  | nil => intro k; rfl
  | cons c r ih =>
    intro k
    rw [List.length_cons, List.range_succ_eq_map, List.filter_cons, List.filter_map]
    have e1 : ((fun i => p ((c :: r).getD i 0)) ∘ Nat.succ) = fun i => p (r.getD i 0) := by funext i; simp
    rw [e1]
    have e2 : List.map (fun i => ((k + i : Nat) : Int)) (List.map Nat.succ (List.filter (fun i => p (r.getD i 0)) (List.range r.length))) = idx p (k + 1) r := by
      rw [List.map_map, ← ih (k + 1)]
      apply List.map_congr_left
      intro i _
      simp only [Function.comp_apply]
      lia
    simp only [List.getD_cons_zero]
    rw [idx_cons]
    split
    · rw [List.map_cons, e2]; rfl
    · exact e2
theorem idx_skip (p : Nat → Bool) (l : List Nat) : ∀ (w : List Nat) (k : Nat), (∀ c ∈ w, p c = false) → idx p k (w ++ l) = idx p (k + w.length) l
  | [], k, _ => rfl
  | c :: r, k, h => by
    rw [List.cons_append, idx_cons, h c (.head _), if_neg (by decide), idx_skip p l r (k + 1) (fun c hc => h c (.tail _ hc)), List.length_cons, show k + 1 + r.length = k + (r.length + 1) by lia]
noncomputable def joinB : List (List Nat) → List Nat
  | [] => []
  | w :: r => w ++ r.flatMap (32 :: ·)
noncomputable def noFl (w : List Nat) : List Sg := w.map fun c => (c, false)
noncomputable def flW (width : Int) (b p : Nat) : List (List Nat) → List Sg
  | [] => []
  | w :: r => if width < ((p + 1 + w.length : Nat) : Int) - (b : Int) then (32, true) :: (noFl w ++ flW width p (p + 1 + w.length) r) else (32, false) :: (noFl w ++ flW width b (p + 1 + w.length) r)
noncomputable def flAll (width : Int) : List (List Nat) → List Sg
  | [] => []
  | w :: r => noFl w ++ flW width 0 w.length r
theorem noFl_map : ∀ w : List Nat, (noFl w).map Prod.fst = w
  | [] => rfl
  | c :: r => congrArg (c :: ·) (noFl_map r)
theorem flW_map (width : Int) : ∀ (r : List (List Nat)) (b p : Nat), (flW width b p r).map Prod.fst = r.flatMap (32 :: ·)
  | [], _, _ => rfl
  | w :: r, b, p => by
    unfold flW
    split <;> simp [noFl_map, flW_map width r]
theorem flAll_map (width : Int) : ∀ ws, (flAll width ws).map Prod.fst = joinB ws
  | [] => rfl
  | w :: r => by simp [flAll, joinB, noFl_map, flW_map]
theorem noFl_at (w : List Nat) : AtBlank (noFl w) := by
  intro p hp h
  obtain ⟨c, hc, rfl⟩ := List.mem_map.mp hp
  cases h
theorem AtBlank.append {F G : List Sg} (h : AtBlank F) (h' : AtBlank G) : AtBlank (F ++ G) := fun p hp => (List.mem_append.mp hp).elim (h p) (h' p)
theorem AtBlank.cons {F : List Sg} {e : Bool} (h : AtBlank F) : AtBlank ((32, e) :: F) := fun p hp => by
  rcases List.mem_cons.mp hp with rfl | hp
  · exact fun _ => rfl
  · exact h p hp
theorem flW_at (width : Int) : ∀ (r : List (List Nat)) (b p : Nat), AtBlank (flW width b p r)
  | [], _, _ => fun _ h => nomatch h
  | w :: r, b, p => by
    unfold flW
    split <;> exact ((noFl_at w).append (flW_at width r _ _)).cons
theorem flAll_at (width : Int) : ∀ ws, AtBlank (flAll width ws)
  | [] => fun _ h => nomatch h
  | w :: r => (noFl_at w).append (flW_at width r _ _)
noncomputable def spotsW (p : Nat) : List (List Nat) → List Int
  | [] => [(p : Int)]
  | w :: r => (p : Int) :: spotsW (p + 1 + w.length) r
theorem spotsW_cons (p : Nat) (r : List (List Nat)) : ∃ t, spotsW p r = (p : Int) :: t := by
  cases r with
  | nil => exact ⟨_, rfl⟩
  | cons w r => exact ⟨_, rfl⟩
noncomputable def BlankFree (ws : List (List Nat)) : Prop := ∀ w ∈ ws, ∀ c ∈ w, c ≠ 32
theorem spots_is : ∀ (r : List (List Nat)) (p : Nat), BlankFree r → idx (· == 32) p (r.flatMap (32 :: ·)) ++ [((p + (r.flatMap (32 :: ·)).length : Nat) : Int)] = spotsW p r
  | [], p, _ => rfl
  | w :: r, p, h => by
    have ih := spots_is r (p + 1 + w.length) (fun v hv => h v (.tail _ hv))
    have e : (w :: r).flatMap (32 :: ·) = 32 :: (w ++ r.flatMap (32 :: ·)) := by simp
    rw [e, idx_cons, if_pos (by decide), idx_skip _ _ w (p + 1) (fun c hc => by simpa using h w (.head _) c hc), List.cons_append]
    unfold spotsW
    rw [← ih]
    congr 3
    simp only [List.length_cons, List.length_append]
    congr 1
    lia
theorem posFrom_noFl (F : List Sg) : ∀ (w : List Nat) (k : Nat), posFrom k (noFl w ++ F) = posFrom (k + w.length) F
  | [], k => rfl
  | c :: r, k => by
    show posFrom k ((c, false) :: (noFl r ++ F)) = _
    rw [posFrom_cons, if_neg (by decide), posFrom_noFl F r (k + 1), List.length_cons, show k + 1 + r.length = k + (r.length + 1) by lia]
end Mine
end
section
open PySem PySem.W PySem.Spec
namespace Mine
theorem ends_run (width : Int) : ∀ (r : List (List Nat)) (b p : Nat) (acc : List Int), (((spotsW p r).zip ((spotsW p r).drop 1)).foldl (endsStep width) ((b : Int), acc)).2 = acc ++ posFrom p (flW width b p r)
  | [], b, p, acc => by simp [spotsW, flW, posFrom]
  | w :: r, b, p, acc => by
    obtain ⟨t, ht⟩ := spotsW_cons (p + 1 + w.length) r
    have e : (spotsW p (w :: r)).zip ((spotsW p (w :: r)).drop 1) = ((p : Int), ((p + 1 + w.length : Nat) : Int)) :: (spotsW (p + 1 + w.length) r).zip ((spotsW (p + 1 + w.length) r).drop 1) := by
      show ((p : Int) :: spotsW (p + 1 + w.length) r).zip (spotsW (p + 1 + w.length) r) = _
      rw [ht]
      rfl
    rw [e, List.foldl_cons]
    unfold endsStep flW
    dsimp only
    by_cases h : width < ((p + 1 + w.length : Nat) : Int) - (b : Int)
    · rw [if_pos h, if_pos h, posFrom_cons, if_pos rfl, posFrom_noFl]
      have ih := ends_run width r p (p + 1 + w.length) (acc ++ [(p : Int)])
      unfold endsStep at ih
      rw [ih, List.append_assoc]
      rfl
    · rw [if_neg h, if_neg h, posFrom_cons, if_neg (by decide), posFrom_noFl]
      have ih := ends_run width r b (p + 1 + w.length) acc
      unfold endsStep at ih
      exact ih
theorem blanks_idx (x : Str) : blanksOf x = idx (· == 32) 0 x.cps.toList := by
  have h := range_idx (· == 32) x.cps.toList 0
  rw [← h]
  unfold blanksOf
  rw [Array.length_toList]
  have e : (fun i => x.cps.getD i 0 == 32) = fun i => x.cps.toList.getD i 0 == 32 := by funext i; rw [getD_list]
  rw [e]
  apply List.map_congr_left
  intro i _
  lia
theorem ends_is {x : Str} {width : Int} {ws : List (List Nat)} (hx : x.cps.toList = joinB ws) (hw : ws ≠ []) (hb : BlankFree ws) : endsOf x width = posFrom 0 (flAll width ws) := by
  cases ws with
  | nil => exact absurd rfl hw
  | cons w r =>
    have hl : (x.length : Int) = ((w.length + (r.flatMap (32 :: ·)).length : Nat) : Int) := by
      rw [← len_list, hx]
      simp only [joinB, List.length_append]
    have hs : spotsOf x = spotsW w.length r := by
      unfold spotsOf
      rw [blanks_idx, hx, hl, show joinB (w :: r) = w ++ r.flatMap (32 :: ·) from rfl, idx_skip _ _ w 0 (fun c hc => by simpa using hb w (.head _) c hc), Nat.zero_add]
      exact spots_is r w.length fun v hv => hb v (.tail _ hv)
    unfold endsOf endsFrom
    rw [hs]
    have := ends_run width r 0 w.length []
    rw [List.nil_append] at this
    rw [show flAll width (w :: r) = noFl w ++ flW width 0 w.length r from rfl, posFrom_noFl, Nat.zero_add]
    exact this
theorem one_is (cl : Nat) : ∀ (F : List Sg) (m : Nat) (Hp : List Bool), ((posFrom Hp.length F).filter fun s => !(Hp ++ hidL cl m (F.map Prod.fst)).getD s.toNat false).map (fun s => s - ((((Hp ++ hidL cl m (F.map Prod.fst)).take s.toNat).filter id).length : Int)) =
    posFrom (Hp.length - (Hp.filter id).length) (visF cl m F)
  | [], m, Hp => rfl
  | (c, e) :: r, m, Hp => by
    have hle : (Hp.filter id).length ≤ Hp.length := List.length_filter_le _ _
    have ih := one_is cl r (mk34 m c) (Hp ++ [hidN cl m c])
    have e0 : Hp ++ hidL cl m (((c, e) :: r).map Prod.fst) = (Hp ++ [hidN cl m c]) ++ hidL cl (mk34 m c) (r.map Prod.fst) := by simp [hidL]
    rw [← e0] at ih
    have el : (Hp ++ [hidN cl m c]).length = Hp.length + 1 := by simp
    rw [el] at ih
    have ec : ((Hp ++ [hidN cl m c]).filter id).length = (Hp.filter id).length + (if hidN cl m c then 1 else 0) := by
      rw [List.filter_append, List.length_append]
      cases hidN cl m c <;> rfl
    rw [ec] at ih
    have hd : (Hp ++ hidL cl m (((c, e) :: r).map Prod.fst)).getD Hp.length false = hidN cl m c := by
      rw [e0]; simp
    have ht : (Hp ++ hidL cl m (((c, e) :: r).map Prod.fst)).take Hp.length = Hp := by simp
    rw [posFrom_cons]
    unfold visF
    generalize Hp ++ hidL cl m (((c, e) :: r).map Prod.fst) = H at ih hd ht
    cases hh : hidN cl m c with
    | true =>
      rw [hh] at ih hd
      simp only [if_true] at ih ⊢
      rw [show Hp.length + 1 - ((Hp.filter id).length + 1) = Hp.length - (Hp.filter id).length by lia] at ih
      rw [← ih]
      cases e with
      | false => rfl
      | true =>
        simp only [if_true]
        rw [List.filter_cons, Int.toNat_natCast, hd]
        rfl
    | false =>
      rw [hh] at ih hd
      simp only [Bool.false_eq_true, if_false, Nat.add_zero] at ih ⊢
      rw [show Hp.length + 1 - (Hp.filter id).length = Hp.length - (Hp.filter id).length + 1 by lia] at ih
      rw [posFrom_cons, ← ih]
      cases e with
      | false => rfl
      | true =>
        simp only [if_true]
        rw [List.filter_cons, Int.toNat_natCast, hd]
        simp only [Bool.not_false, if_true, List.map_cons, Int.toNat_natCast, ht]
        congr 1
        lia
noncomputable def flsA (T : List Fl) : List Sg := T.map fun p => (p.1, p.2.1)
noncomputable def flsB (T : List Fl) : List Sg := T.map fun p => (p.1, p.2.2)
theorem strA_told : ∀ T, strA T = toldL (flsA T)
  | [] => rfl
  | (c, a, b) :: t => by
    show nlIf a ++ c :: strA t = nlIf a ++ c :: toldL (flsA t)
    rw [strA_told t]
theorem strB_told : ∀ T, strB T = toldL (flsB T)
  | [] => rfl
  | (c, a, b) :: t => by
    show nlIf b ++ c :: strB t = nlIf b ++ c :: toldL (flsB t)
    rw [strB_told t]
theorem notin_next {k : Nat} {F G : List Sg} (e : Bool) (c : Nat) : (posFrom (k + 1) F).filter (fun s => !decide (s ∈ posFrom k ((c, e) :: G))) = (posFrom (k + 1) F).filter (fun s => !decide (s ∈ posFrom (k + 1) G)) := by
  apply List.filter_congr
  intro s hs
  have := posFrom_ge _ _ s hs
  rw [posFrom_cons]
  cases e with
  | false => rfl
  | true =>
    rw [if_pos rfl]
    congr 1
    have : s ≠ (k : Int) := by lia
    simp [this]
theorem due_is : ∀ (T : List Fl) (k : Nat), ((posFrom k (flsA T)).filter fun s => !decide (s ∈ posFrom k (flsB T))).length + ((posFrom k (flsB T)).filter fun s => !decide (s ∈ posFrom k (flsA T))).length = apart T
  | [], k => rfl
  | (c, a, b) :: t, k => by
    have ih := due_is t (k + 1)
    have ea : flsA ((c, a, b) :: t) = (c, a) :: flsA t := rfl
    have eb : flsB ((c, a, b) :: t) = (c, b) :: flsB t := rfl
    have na : ∀ G : List Sg, ((k : Int) ∈ posFrom (k + 1) G) = False := fun G => eq_false fun h => by have := posFrom_ge _ _ _ h; lia
    have step : ∀ (F G : List Sg) (a b : Bool), ((posFrom k ((c, a) :: F)).filter fun s => !decide (s ∈ posFrom k ((c, b) :: G))).length = ((posFrom (k + 1) F).filter fun s => !decide (s ∈ posFrom (k + 1) G)).length + (if a = true ∧ b = false then 1 else 0) := by
      intro F G a b
      rw [posFrom_cons k c a F]
      cases a with
      | false => rw [if_neg (by decide), notin_next]; simp
      | true =>
        rw [if_pos rfl, List.filter_cons, notin_next]
        cases b with
        | true =>
          have : (k : Int) ∈ posFrom k ((c, true) :: G) := .head _
          simp [this]
        | false =>
          have : (k : Int) ∉ posFrom k ((c, false) :: G) := by rw [posFrom_cons, if_neg (by decide), na]; exact id
          simp [this]
    rw [ea, eb, step, step]
    unfold apart
    rw [← ih]
    cases a <;> cases b <;> simp <;> lia
end Mine
end
section
open PySem PySem.W PySem.Spec
namespace Mine
noncomputable def visA : Nat → List Nat → List Nat
  | _, [] => []
  | m, c :: r => if (c == 34 || m % 2 == 1) = true then visA (mk34 m c) r else c :: visA (mk34 m c) r
theorem vis_cons (cl m c : Nat) (r : List Nat) : vis cl m (c :: r) = if hidN cl m c then vis cl (mk34 m c) r else c :: vis cl (mk34 m c) r := rfl
theorem visA_cons (m c : Nat) (r : List Nat) : visA m (c :: r) = if (c == 34 || m % 2 == 1) = true then visA (mk34 m c) r else c :: visA (mk34 m c) r := rfl
theorem mk34_count (m c : Nat) (r : List Nat) : mk34 m c + r.count 34 = m + (c :: r).count 34 := by
  rw [List.count_cons]
  unfold mk34
  by_cases h : c = 34
  · subst h; simp; lia
  · rw [if_neg h]; simp [h]
theorem vis_append (cl : Nat) (b : List Nat) : ∀ (a : List Nat) (m : Nat), vis cl m (a ++ b) = vis cl m a ++ vis cl (m + a.count 34) b
  | [], m => rfl
  | c :: r, m => by
    have ih := vis_append cl b r (mk34 m c)
    rw [mk34_count] at ih
    rw [List.cons_append, vis_cons, vis_cons]
    split
    · exact ih
    · rw [ih]; rfl
theorem visA_append (b : List Nat) : ∀ (a : List Nat) (m : Nat), visA m (a ++ b) = visA m a ++ visA (m + a.count 34) b
  | [], m => rfl
  | c :: r, m => by
    have ih := visA_append b r (mk34 m c)
    rw [mk34_count] at ih
    rw [List.cons_append, visA_cons, visA_cons]
    split
    · exact ih
    · rw [ih]; rfl
theorem vis_late (cl : Nat) : ∀ (l : List Nat) (m : Nat), cl ≤ m → vis cl m l = l
  | [], _, _ => rfl
  | c :: r, m, h => by
    have e : hidN cl m c = false := by unfold hidN; rw [decide_eq_false (by lia)]; rfl
    rw [vis_cons, e, if_neg (by decide), vis_late cl r _ (by unfold mk34; split <;> lia)]
theorem vis_all (cl : Nat) : ∀ (l : List Nat) (m : Nat), m + l.count 34 = cl → cl % 2 = 0 → vis cl m l = visA m l
  | [], _, _, _ => rfl
  | c :: r, m, h, h2 => by
    have ih := vis_all cl r (mk34 m c) (by rw [mk34_count]; exact h) h2
    have e : hidN cl m c = (c == 34 || m % 2 == 1) := by
      unfold hidN
      by_cases hm : m < cl
      · rw [decide_eq_true hm]; rfl
      · rw [decide_eq_false hm]
        rw [List.count_cons] at h
        by_cases h34 : c = 34
        · subst h34; simp at h; lia
        · have : m % 2 = 0 := by rw [show m = cl by lia]; exact h2
          simp [h34, this]
    rw [vis_cons, visA_cons, e, ih]
theorem hidL_len (cl : Nat) : ∀ (l : List Nat) (m : Nat), (hidL cl m l).length = l.length
  | [], _ => rfl
  | _ :: r, _ => congrArg (· + 1) (hidL_len cl r _)
theorem hid_fold (cl : Nat) : ∀ (l : List Nat) (m : Nat) (acc : List Bool), (l.foldl (hidStep (cl : Int)) ((m : Int), acc)).2 = acc ++ hidL cl m l
  | [], m, acc => by simp [hidL]
  | c :: r, m, acc => by
    rw [List.foldl_cons]
    have e1 : (if c = 34 then (m : Int) + 1 else (m : Int)) = ((mk34 m c : Nat) : Int) := by unfold mk34; split <;> simp
    have e2 : (decide ((m : Int) < (cl : Int)) && (c == 34 || (m : Int).fmod 2 == 1)) = hidN cl m c := by
      unfold hidN
      have e3 : (m : Int).fmod 2 = ((m % 2 : Nat) : Int) := by rw [Int.fmod_eq_emod_of_nonneg _ (by decide)]; rfl
      rw [e3]
      have e4 : (((m % 2 : Nat) : Int) == 1) = (m % 2 == 1) := by
        rw [Bool.eq_iff_iff, beq_iff_eq, beq_iff_eq]; lia
      rw [e4]
      congr 1
      exact decide_eq_decide.mpr (by lia)
    have ih := hid_fold cl r (mk34 m c) (acc ++ [hidN cl m c])
    unfold hidStep at ih ⊢
    dsimp only at ih ⊢
    rw [e1, e2, ih, hidL, List.append_assoc]
    rfl
theorem cntN (c : Nat) : ∀ l : List Nat, PyProof.Rows.cnt c l = ((l.count c : Nat) : Int)
  | [] => by rw [PyProof.Rows.cnt_nil]; rfl
  | d :: r => by
    rw [PyProof.Rows.cnt_cons, cntN c r, List.count_cons]
    by_cases h : d = c
    · subst h; simp; lia
    · simp [h]
end Mine
end
section
open PySem PySem.W PySem.Spec PyProof.Rows
namespace Mine
noncomputable def ch (x : Str) : List Nat := x.cps.toList
theorem ch_append (a b : Str) : ch (a ++ b) = ch a ++ ch b := by
  show (a.cps ++ b.cps).toList = _
  rw [Array.toList_append]
  rfl
theorem ch_len (x : Str) : (ch x).length = x.length := len_list x
theorem ch_ext {a b : Str} (h : ch a = ch b) : a = b := by
  cases a; cases b
  have := Array.toList_inj.mp h
  exact congrArg Str.mk this
theorem q_eq : Str.ofString "\"" = ⟨#[34]⟩ := by decide +kernel
theorem e_eq : Str.ofString "" = ⟨#[]⟩ := by decide +kernel
theorem n_eq : Str.ofString "\n" = ⟨#[10]⟩ := by decide +kernel
theorem b_eq : Str.ofString " " = ⟨#[32]⟩ := by decide +kernel
theorem join_eq (sep : Str) (l : List Str) : Txt.join sep l = Str.join sep l := StrLaws.glued_eq_join sep l
theorem join_ch (sep : Str) : ∀ (a : Str) (l : List Str), ch (Txt.join sep (a :: l)) = ch a ++ l.flatMap fun v => ch sep ++ ch v
  | a, [] => by rw [join_eq]; show ch a = _; simp
  | a, b :: r => by
    have ih := join_ch sep b r
    rw [join_eq] at ih ⊢
    show ch (a ++ sep ++ Str.join sep (b :: r)) = _
    rw [ch_append, ch_append, ih]
    simp
theorem join0_ch (l : List Str) : ch (Txt.join (Str.ofString "") l) = l.flatMap ch := by
  rw [e_eq]
  cases l with
  | nil => rfl
  | cons a r =>
    rw [join_ch]
    have : ch (⟨#[]⟩ : Str) = [] := rfl
    simp [this]
noncomputable def clOf (l : List Nat) : Nat := l.count 34 / 2 * 2
theorem closed_is (x : Str) : closedOf x = ((clOf (ch x) : Nat) : Int) := by
  unfold closedOf clOf
  rw [q_eq, count_cnt, cntN]
  rw [Int.fdiv_eq_ediv_of_nonneg _ (by decide)]
  show (((ch x).count 34 : Nat) : Int) / 2 * 2 = _
  lia
theorem hidden_is (x : Str) : hiddenOf x = hidL (clOf (ch x)) 0 (ch x) := by
  unfold hiddenOf hidFrom
  rw [closed_is]
  exact hid_fold _ _ 0 []
theorem hidden_len (x : Str) : (hiddenOf x).length = x.cps.size := by
  rw [hidden_is, hidL_len]
  exact ch_len x
theorem vis_zip (cl : Nat) : ∀ (l : List Nat) (m : Nat), ((l.zip (hidL cl m l)).filter fun p => !p.2).map Prod.fst = vis cl m l
  | [], _ => rfl
  | c :: r, m => by
    have ih := vis_zip cl r (mk34 m c)
    rw [vis_cons]
    show (((c, hidN cl m c) :: r.zip (hidL cl (mk34 m c) r)).filter fun p => !p.2).map Prod.fst = _
    rw [List.filter_cons]
    cases hidN cl m c with
    | true => simpa using ih
    | false => simpa using ih
theorem leftParts_is (x : Str) : leftParts x = (vis (clOf (ch x)) 0 (ch x)).map fun c => (⟨#[c]⟩ : Str) := by
  rw [← vis_zip, ← hidden_is, List.map_map]
  have hz : ((ch x).zip (hiddenOf x)).length = x.cps.size := by
    rw [List.length_zip, hidden_len, ch_len]
    exact Nat.min_self _
  have h := range_sel ((ch x).zip (hiddenOf x)) (0, false) (fun p => !p.2) ((fun c => (⟨#[c]⟩ : Str)) ∘ Prod.fst)
  rw [hz] at h
  rw [← h]
  unfold leftParts
  have g : ∀ i, i < x.cps.size → ((ch x).zip (hiddenOf x)).getD i (0, false) = (x.cps.getD i 0, (hiddenOf x).getD i false) := by
    intro i hi
    have h1 : i < (ch x).length := by rw [ch_len]; exact hi
    have h2 : i < (hiddenOf x).length := by rw [hidden_len]; exact hi
    have h3 : i < ((ch x).zip (hiddenOf x)).length := by rw [hz]; exact hi
    rw [List.getD_eq_getElem?_getD, List.getElem?_eq_getElem h3, List.getElem_zip, List.getD_eq_getElem?_getD, List.getElem?_eq_getElem h2, getD_list, List.getD_eq_getElem?_getD]
    show _ = ((ch x)[i]?.getD 0, _)
    rw [List.getElem?_eq_getElem h1]
    rfl
  have e1 : (List.range x.cps.size).filter (fun i => !(((ch x).zip (hiddenOf x)).getD i (0, false)).2) = (List.range x.cps.size).filter fun i => !(hiddenOf x).getD i false := by
    apply List.filter_congr
    intro i hi
    rw [g i (List.mem_range.mp hi)]
  rw [e1]
  apply List.map_congr_left
  intro i hi
  have hi' := List.mem_range.mp (List.mem_filter.mp hi).1
  simp only [Function.comp_apply]
  rw [g i hi']
theorem singles (l : List Nat) : (l.map fun c => (⟨#[c]⟩ : Str)).flatMap ch = l := by
  induction l with
  | nil => rfl
  | cons c r ih => rw [List.map_cons, List.flatMap_cons, ih]; rfl
theorem left_is (x : Str) : ch (leftOf x) = vis (clOf (ch x)) 0 (ch x) := by
  unfold leftOf
  rw [join0_ch, leftParts_is, singles]
theorem told_is {x : Str} {F : List Sg} (h : ch x = F.map Prod.fst) : ch (toldOf x (posFrom 0 F)) = toldL F := by
  unfold toldOf
  rw [join0_ch, told_flat]
  have hl : x.cps.size = F.length := by
    have := congrArg List.length h
    rw [ch_len, List.length_map] at this
    exact this
  unfold toldParts
  have h2 := range_list F (0, false) (fun p => nlIf p.2 ++ [p.1])
  rw [hl, List.flatMap_map, List.flatMap_def, List.flatMap_def, ← h2]
  congr 1
  apply List.map_congr_left
  intro i hi
  have hi' := List.mem_range.mp hi
  rw [ch_append]
  have e1 : x.cps.getD i 0 = (F.getD i (0, false)).1 := by
    rw [getD_list]
    show (ch x).getD i 0 = _
    rw [h, List.getD_eq_getElem?_getD, List.getD_eq_getElem?_getD, List.getElem?_map, List.getElem?_eq_getElem hi']
    rfl
  have e2 := posFrom_mem 0 F i
  rw [Nat.zero_add] at e2
  rw [e1]
  show ch _ ++ [(F.getD i (0, false)).1] = nlIf _ ++ [(F.getD i (0, false)).1]
  congr 1
  by_cases hm : ((i : Nat) : Int) ∈ posFrom 0 F
  · rw [if_pos hm, e2.mp hm, n_eq]; rfl
  · rw [if_neg hm, e_eq, show (F.getD i (0, false)).2 = false from by simpa using fun h => hm (e2.mpr h)]; rfl
end Mine
end
section
open PySem PySem.W PySem.Spec PyProof.Rows
namespace Mine
theorem slice_mid {x : Str} {a b : Nat} (h0 : a ≤ b) (h1 : b ≤ x.length) : ch (Txt.slice x (some (a : Int)) (some (b : Int))) = ((ch x).drop a).take (b - a) := slice_run (idx_mid h0 h1) (by lia)
noncomputable def flat (res : List Str) : List Nat := res.flatMap ch
theorem visA_snoc (l : List Nat) (c : Nat) : visA 0 (l ++ [c]) = visA 0 l ++ (if (c == 34 || l.count 34 % 2 == 1) = true then [] else [c]) := by
  rw [visA_append, Nat.zero_add, visA_cons]
  split <;> rfl
noncomputable def StripIs (l : List Nat) (i : Nat) (st : Int × Option Int × List Str) : Prop :=
  ∃ start : Nat, st.1 = (start : Int) ∧ match st.2.1 with
    | none => (l.take i).count 34 % 2 = 0 ∧ start ≤ i ∧ flat st.2.2 ++ (l.take i).drop start = visA 0 (l.take i)
    | some o => ∃ o' : Nat, o = (o' : Int) ∧ o' < i ∧ start ≤ o' ∧ (l.take o').count 34 % 2 = 0 ∧ (l.take i).count 34 = (l.take o').count 34 + 1 ∧ flat st.2.2 ++ (l.take o').drop start = visA 0 (l.take o') ∧ visA 0 (l.take i) = visA 0 (l.take o')
theorem strip_step {x : Str} {i : Nat} {st : Int × Option Int × List Str} (hi : i < x.length) (h : StripIs (ch x) i st) : StripIs (ch x) (i + 1) (stripStep x st i) := by
  obtain ⟨s0, op, res⟩ := st
  obtain ⟨start, hs, h⟩ := h
  dsimp only at hs h
  subst hs
  have hi' : i < (ch x).length := by rw [ch_len]; exact hi
  have ht : (ch x).take (i + 1) = (ch x).take i ++ [x.cps.getD i 0] := by
    rw [List.take_add_one, List.getElem?_eq_getElem hi', getD_list]
    show _ = _ ++ [(ch x).getD i 0]
    rw [List.getD_eq_getElem?_getD, List.getElem?_eq_getElem hi']
    rfl
  have hv := visA_snoc ((ch x).take i) (x.cps.getD i 0)
  rw [← ht] at hv
  have hc : ((ch x).take (i + 1)).count 34 = ((ch x).take i).count 34 + (if x.cps.getD i 0 = 34 then 1 else 0) := by
    rw [ht, List.count_append, List.count_singleton]
    simp
  have hlen : ((ch x).take i).length = i := by rw [List.length_take]; lia
  unfold stripStep
  dsimp only
  by_cases h34 : x.cps.getD i 0 = 34
  · rw [if_pos h34] at hc ⊢
    rw [h34] at hv
    simp only [beq_self_eq_true, Bool.true_or, if_true, List.append_nil] at hv
    cases op with
    | none =>
      obtain ⟨h1, h2, h3⟩ := h
      exact ⟨start, rfl, i, rfl, Nat.lt_succ_self _, h2, h1, hc, h3, hv⟩
    | some o =>
      obtain ⟨o', rfl, h1, h2, h3, h4, h5, h6⟩ := h
      refine ⟨i + 1, by simp, ?_⟩
      dsimp only
      refine ⟨by lia, Nat.le_refl _, ?_⟩
      rw [List.drop_of_length_le (by rw [List.length_take]; lia), List.append_nil, hv, h6, ← h5]
      by_cases e : (start : Int) = (o' : Int)
      · have e' : start = o' := by lia
        subst e'
        rw [if_neg (by simp), List.drop_of_length_le (by rw [List.length_take]; lia), List.append_nil]
      · rw [if_pos (by simpa using e)]
        unfold flat
        rw [List.flatMap_append, List.flatMap_singleton, slice_mid h2 (by lia), List.drop_take]
  · rw [if_neg h34] at hc ⊢
    have hb : (x.cps.getD i 0 == 34) = false := by simpa using h34
    rw [hb, Bool.false_or] at hv
    cases op with
    | none =>
      obtain ⟨h1, h2, h3⟩ := h
      rw [h1] at hv
      simp only [show ((0 : Nat) == 1) = false from rfl, Bool.false_eq_true, if_false] at hv
      refine ⟨start, rfl, by rw [hc]; simpa using h1, Nat.le_succ_of_le h2, ?_⟩
      rw [hv, ← h3, ht, List.drop_append_of_le_length (by lia), List.append_assoc]
    | some o =>
      obtain ⟨o', rfl, h1, h2, h3, h4, h5, h6⟩ := h
      rw [show ((ch x).take i).count 34 % 2 = 1 by lia] at hv
      simp only [beq_self_eq_true, if_true, List.append_nil] at hv
      exact ⟨start, rfl, o', rfl, by lia, h2, h3, by rw [hc]; simpa using h4, h5, hv.trans h6⟩
theorem strip_loop (x : Str) : ∀ i, i ≤ x.length → StripIs (ch x) i (stripFrom x i)
  | 0, _ => ⟨0, rfl, by simp [flat, stripFrom, visA]⟩
  | i + 1, h => by
    rw [stripFrom_next]
    exact strip_step (by lia) (strip_loop x i (by lia))
theorem strip_is (x : Str) : ch (stripOf x) = vis (clOf (ch x)) 0 (ch x) := by
  unfold stripOf
  have hct : Txt.contains x (Str.ofString "\"") = decide (34 ∈ ch x) := by
    rw [q_eq]
    exact StrLaws.found_one x 34
  by_cases hc : 34 ∈ ch x
  · rw [hct, decide_eq_true hc, if_neg (by decide)]
    rw [join0_ch]
    have h := strip_loop x x.length (Nat.le_refl _)
    have hx : x.cps.size = x.length := rfl
    rw [hx]
    generalize stripFrom x x.length = st at h
    obtain ⟨s0, op, res⟩ := st
    obtain ⟨start, hs, h⟩ := h
    dsimp only at hs h ⊢
    subst hs
    rw [List.take_of_length_le (by rw [ch_len]; exact Nat.le_refl _)] at h
    have tail : flat (if (start : Int) < (x.length : Int) then [Txt.slice x (some (start : Int)) none] else []) = (ch x).drop start := by
      split
      · unfold flat
        rw [List.flatMap_singleton]
        exact slice_from (x := x) (p := (start : Int)) (by lia) (by lia)
      · rw [List.drop_of_length_le (by rw [ch_len]; lia)]
        rfl
    rw [List.flatMap_append]
    show flat res ++ flat _ = _
    rw [tail]
    cases op with
    | none =>
      obtain ⟨h1, h2, h3⟩ := h
      rw [h3]
      exact (vis_all (clOf (ch x)) (ch x) 0 (by unfold clOf; lia) (by unfold clOf; lia)).symm
    | some o =>
      obtain ⟨o', -, h1, h2, h3, h4, h5, h6⟩ := h
      have e : ch x = (ch x).take o' ++ (ch x).drop o' := (List.take_append_drop _ _).symm
      have ecl : clOf (ch x) = ((ch x).take o').count 34 := by unfold clOf; lia
      conv => rhs; rw [ecl]; arg 3; rw [e]
      rw [vis_append, Nat.zero_add, vis_late _ _ _ (Nat.le_refl _), vis_all _ _ 0 (by lia) h3, ← h5, List.append_assoc]
      congr 1
      conv => lhs; rw [e]
      rw [List.drop_append_of_le_length (by rw [List.length_take, ch_len]; lia)]
  · rw [hct, decide_eq_false hc, if_pos rfl]
    have h0 : (ch x).count 34 = 0 := List.count_eq_zero.mpr hc
    have : clOf (ch x) = 0 := by unfold clOf; rw [h0]
    rw [this, vis_late 0 _ 0 (Nat.le_refl _)]
end Mine
end
section
open PySem PySem.W PySem.Spec PyProof.Rows
namespace Mine
noncomputable def BF (w : List Nat) : Prop := ∀ c ∈ w, c ≠ 32
theorem tail_head : ∀ as : List (List Nat), as.flatMap (32 :: ·) = [] ∨ ∃ t, as.flatMap (32 :: ·) = 32 :: t
  | [] => .inl rfl
  | w :: r => .inr ⟨w ++ r.flatMap (32 :: ·), by simp⟩
theorem word_uniq : ∀ {a b R S : List Nat}, BF a → BF b → (R = [] ∨ ∃ t, R = 32 :: t) → (S = [] ∨ ∃ t, S = 32 :: t) → a ++ R = b ++ S → a = b ∧ R = S
  | [], [], _, _, _, _, _, _, e => ⟨rfl, e⟩
  | [], d :: b, R, S, _, hb, hR, _, e => by
    rcases hR with rfl | ⟨t, rfl⟩
    · cases e
    · injection e with e _
      exact absurd e.symm (hb d (.head _))
  | c :: a, [], R, S, ha, _, _, hS, e => by
    rcases hS with rfl | ⟨t, rfl⟩
    · cases e
    · injection e with e _
      exact absurd e (ha c (.head _))
  | c :: a, d :: b, R, S, ha, hb, hR, hS, e => by
    injection e with e1 e2
    obtain ⟨h1, h2⟩ := word_uniq (fun x hx => ha x (.tail _ hx)) (fun x hx => hb x (.tail _ hx)) hR hS e2
    exact ⟨by rw [e1, h1], h2⟩
theorem tails_uniq : ∀ {as bs : List (List Nat)}, BlankFree as → BlankFree bs → as.flatMap (32 :: ·) = bs.flatMap (32 :: ·) → as = bs
  | [], [], _, _, _ => rfl
  | [], b :: bs, _, _, e => by simp at e
  | a :: as, [], _, _, e => by simp at e
  | a :: as, b :: bs, ha, hb, e => by
    rw [List.flatMap_cons, List.flatMap_cons, List.cons_append, List.cons_append] at e
    injection e with _ e
    obtain ⟨h1, h2⟩ := word_uniq (ha a (.head _)) (hb b (.head _)) (tail_head as) (tail_head bs) e
    rw [h1, tails_uniq (fun w hw => ha w (.tail _ hw)) (fun w hw => hb w (.tail _ hw)) h2]
theorem words_uniq {as bs : List (List Nat)} (ha : BlankFree as) (hb : BlankFree bs) (na : as ≠ []) (nb : bs ≠ []) (e : joinB as = joinB bs) : as = bs := by
  cases as with
  | nil => exact absurd rfl na
  | cons a as =>
    cases bs with
    | nil => exact absurd rfl nb
    | cons b bs =>
      obtain ⟨h1, h2⟩ := word_uniq (ha a (.head _)) (hb b (.head _)) (tail_head as) (tail_head bs) e
      rw [h1, tails_uniq (fun w hw => ha w (.tail _ hw)) (fun w hw => hb w (.tail _ hw)) h2]
theorem joinB_ch (l : List Str) (h : l ≠ []) : ch (Txt.join (Str.ofString " ") l) = joinB (l.map ch) := by
  cases l with
  | nil => exact absurd rfl h
  | cons a r =>
    rw [join_ch, b_eq]
    show ch a ++ _ = ch a ++ (r.map ch).flatMap (32 :: ·)
    rw [List.flatMap_map]
    rfl
noncomputable def W1 (w : List Nat) : Str := ⟨w.toArray⟩
theorem W1_ch (w : List Nat) : ch (W1 w) = w := rfl
theorem split_is {x : Str} {ws : List (List Nat)} (hx : ch x = joinB ws) (hw : ws ≠ []) (hb : BlankFree ws) : Txt.split x (Str.ofString " ") = ws.map W1 := by
  have h1 := StrLaws.join_split x ⟨#[32]⟩
  have h2 := StrLaws.split_free x 32
  have h3 := PyProof.Rows.split_pos x ⟨#[32]⟩
  rw [← b_eq, ← join_eq] at h1
  rw [← b_eq] at h2 h3
  generalize Txt.split x (Str.ofString " ") = l at h1 h2 h3
  have hl : l ≠ [] := fun e => by rw [e] at h3; simp at h3
  have h4 := joinB_ch l hl
  rw [h1, hx] at h4
  have h5 : ws = l.map ch := words_uniq hb (fun w hw c hc => by
    obtain ⟨v, hv, rfl⟩ := List.mem_map.mp hw
    intro e
    exact h2 v hv (e ▸ hc)) hw (by simpa using hl) h4
  rw [h5, List.map_map]
  have : (W1 ∘ ch) = id := by funext v; exact ch_ext rfl
  rw [this, List.map_id]
theorem joinN_ch (a : Str) : ∀ ls : List Str, ch (Txt.join (Str.ofString "\n") (ls ++ [a])) = ls.flatMap (fun v => ch v ++ [10]) ++ ch a := by
  have sh : ∀ r : List Str, (r ++ [a]).flatMap (fun v => ch (Str.ofString "\n") ++ ch v) = [10] ++ r.flatMap (fun v => ch v ++ [10]) ++ ch a := by
    have e : ch (Str.ofString "\n") = [10] := by rw [n_eq]; rfl
    rw [e]
    intro r
    induction r with
    | nil => simp
    | cons b r ih => rw [List.cons_append, List.flatMap_cons, ih]; simp
  intro ls
  cases ls with
  | nil => rw [List.nil_append, join_ch]; simp
  | cons b r => rw [List.cons_append, join_ch, sh]; simp
theorem lineOf_ch (ps : List (Str × Str)) : ch (lineOf ps) = ps.flatMap fun p => ch p.1 ++ ch p.2 := by
  unfold lineOf
  rw [join0_ch, List.flatMap_map]
  congr 1
  funext p
  exact ch_append _ _
noncomputable def outOf (st : List Str × List (Str × Str)) : List Nat := st.1.flatMap (fun v => ch v ++ [10]) ++ ch (lineOf st.2)
theorem sumLen_snoc (ps : List (Str × Str)) (p : Str × Str) : sumLen (ps ++ [p]) = sumLen ps + ((p.1.length : Int) + (p.2.length : Int)) := by
  unfold sumLen
  rw [List.map_append, List.sum_append]
  simp [partLen]
theorem fold_run (width : Int) : ∀ (r : List (List Nat)) (b p : Nat) (st : List Str × List (Str × Str)), st.2 ≠ [] → b ≤ p → sumLen st.2 = (p : Int) - (b : Int) →
    outOf ((r.map fun w => (Str.ofString " ", W1 w)).foldl (foldStep width) st) = outOf st ++ toldL (flW width b p r) ∧ ((r.map fun w => (Str.ofString " ", W1 w)).foldl (foldStep width) st).2 ≠ []
  | [], b, p, st, h, _, _ => ⟨by simp [flW, toldL], h⟩
  | w :: r, b, p, st, h, hbp, hs => by
    have hb1 : (Str.ofString " ").length = 1 := by decide +kernel
    have hw1 : (W1 w).length = w.length := by rw [← ch_len]; rfl
    have hbc : ch (Str.ofString " ") = [32] := by rw [b_eq]; rfl
    have tn : ∀ F : List Sg, toldL (noFl w ++ F) = w ++ toldL F := by
      intro F
      unfold noFl
      induction w with
      | nil => rfl
      | cons c w ih => 
        show nlIf false ++ c :: toldL (List.map _ w ++ F) = _
        rw [ih (by rw [← ch_len]; rfl)]; rfl
    have hsum : sumLen (st.2 ++ [(Str.ofString " ", W1 w)]) = ((p + 1 + w.length : Nat) : Int) - (b : Int) := by
      rw [sumLen_snoc, hs, hb1, hw1]
      lia
    rw [List.map_cons, List.foldl_cons]
    unfold flW
    by_cases hc : width < ((p + 1 + w.length : Nat) : Int) - (b : Int)
    · have e : foldStep width st (Str.ofString " ", W1 w) = (st.1 ++ [lineOf st.2], [(Str.ofString " ", W1 w)]) := by
        unfold foldStep
        rw [hsum, if_pos hc, if_neg h]
      rw [e, if_pos hc]
      have ih := fold_run width r p (p + 1 + w.length) (st.1 ++ [lineOf st.2], [(Str.ofString " ", W1 w)]) (by simp) (by lia) (by
        show sumLen ([] ++ [(Str.ofString " ", W1 w)]) = _
        rw [sumLen_snoc, hb1, hw1]
        show (0 : Int) + _ = _
        lia)
      refine ⟨?_, ih.2⟩
      rw [ih.1]
      show ((st.1 ++ [lineOf st.2]).flatMap (fun v => ch v ++ [10]) ++ ch (lineOf [(Str.ofString " ", W1 w)])) ++ _ = (st.1.flatMap (fun v => ch v ++ [10]) ++ ch (lineOf st.2)) ++ (nlIf true ++ 32 :: toldL (noFl w ++ flW width p (p + 1 + w.length) r))
      rw [tn, lineOf_ch [(Str.ofString " ", W1 w)]]
      simp [hbc, W1_ch, nlIf]
    · have e : foldStep width st (Str.ofString " ", W1 w) = (st.1, st.2 ++ [(Str.ofString " ", W1 w)]) := by
        unfold foldStep
        rw [hsum, if_neg hc]
      rw [e, if_neg hc]
      have ih := fold_run width r b (p + 1 + w.length) (st.1, st.2 ++ [(Str.ofString " ", W1 w)]) (by simp) (by lia) hsum
      refine ⟨?_, ih.2⟩
      rw [ih.1]
      show (st.1.flatMap (fun v => ch v ++ [10]) ++ ch (lineOf (st.2 ++ [(Str.ofString " ", W1 w)]))) ++ _ = (st.1.flatMap (fun v => ch v ++ [10]) ++ ch (lineOf st.2)) ++ (nlIf false ++ 32 :: toldL (noFl w ++ flW width b (p + 1 + w.length) r))
      rw [tn, lineOf_ch, lineOf_ch]
      simp [hbc, W1_ch, nlIf]
theorem space_no (c : Nat) (h1 : 97 ≤ c) (h2 : c ≤ 108) : Unicode.isSpace c = false := by
  have : ∀ i : Fin 12, Unicode.isSpace (97 + i.val) = false := by decide +kernel
  have h := this ⟨c - 97, by lia⟩
  simp only at h
  rwa [show 97 + (c - 97) = c by lia] at h
noncomputable def LetterIn (ws : List (List Nat)) : Prop := ∀ w ∈ ws, ∃ c ∈ w, 97 ≤ c ∧ c ≤ 108
theorem partLen_sum (ps : List (Str × Str)) : 0 ≤ sumLen ps := by
  induction ps with
  | nil => exact Int.le_refl _
  | cons p r ih =>
    have : sumLen (p :: r) = ((p.1.length : Int) + (p.2.length : Int)) + sumLen r := by simp [sumLen, partLen]
    lia
theorem fold_facts {x : Str} {width : Int} {ws : List (List Nat)} (hx : ch x = joinB ws) (hw : ws ≠ []) (hb : BlankFree ws) (hn : LetterIn ws) (hl : x.length ≤ 30) :
    FoldFacts x width (W1 (toldL (flAll width ws))) := by
  refine ⟨by lia, ?_⟩
  cases ws with
  | nil => exact absurd rfl hw
  | cons w0 r =>
    have hsp := split_is hx hw hb
    have hch : chunksOf ((w0 :: r).map W1) = (Str.ofString "", W1 w0) :: r.map fun w => (Str.ofString " ", W1 w) := by
      show _ :: (r.map W1).map _ = _
      rw [List.map_map]; rfl
    have e0 : foldStep width ([], []) (Str.ofString "", W1 w0) = ([], [(Str.ofString "", W1 w0)]) := by
      unfold foldStep
      split <;> rfl
    have hw1 : (W1 w0).length = w0.length := by rw [← ch_len]; rfl
    have he1 : (Str.ofString "").length = 0 := by decide +kernel
    have run := fold_run width r 0 w0.length ([], [(Str.ofString "", W1 w0)]) (by simp) (Nat.zero_le _) (by
      show sumLen ([] ++ [(Str.ofString "", W1 w0)]) = _
      rw [sumLen_snoc, he1, hw1]
      show (0 : Int) + _ = _
      lia)
    have hfa : foldAll width (chunksOf ((w0 :: r).map W1)) = (r.map fun w => (Str.ofString " ", W1 w)).foldl (foldStep width) ([], [(Str.ofString "", W1 w0)]) := by
      unfold foldAll
      rw [hch, List.foldl_cons, e0]
    rw [← hfa] at run
    have hlines := foldAll_lines (width := width) (chunksOf ((w0 :: r).map W1))
    have hparts : ∀ q ∈ (foldAll width (chunksOf ((w0 :: r).map W1))).2, q ∈ chunksOf ((w0 :: r).map W1) := fun q hq => foldAll_parts _ hq
    generalize hst : foldAll width (chunksOf ((w0 :: r).map W1)) = st at run hlines hparts
    obtain ⟨ls, ps⟩ := st
    obtain ⟨ho, hne⟩ := run
    dsimp only at hne hlines hparts
    obtain ⟨pp, ⟨fw, wd⟩, hps⟩ : ∃ pp q, ps = pp ++ [q] := ⟨ps.dropLast, ps.getLast hne, (List.dropLast_concat_getLast hne).symm⟩
    subst hps
    have hm := chunksOf_mem (hparts (fw, wd) (by simp))
    obtain ⟨w, hwm, hwe⟩ := List.mem_map.mp hm.2
    replace hwe : W1 w = wd := hwe
    obtain ⟨c, hc, hc1, hc2⟩ := hn w hwm
    have hwd : c ∈ ch wd := by rw [← hwe]; exact hc
    have hlen : (ch wd).length ≠ 0 := fun e => by rw [List.length_eq_zero_iff.mp e] at hwd; cases hwd
    have hres : ch (Txt.join (Str.ofString "\n") (ls ++ [lineOf (pp ++ [(fw, wd)])])) = toldL (flAll width (w0 :: r)) := by
      rw [joinN_ch]
      show outOf (ls, pp ++ [(fw, wd)]) = _
      rw [ho]
      have e1 : outOf ([], [(Str.ofString "", W1 w0)]) = w0 := by
        unfold outOf
        rw [lineOf_ch, e_eq]
        show [] ++ (([] ++ w0) ++ []) = w0
        simp
      rw [e1]
      show _ = toldL (noFl w0 ++ flW width 0 w0.length r)
      have tn : ∀ (w : List Nat) (F : List Sg), toldL (noFl w ++ F) = w ++ toldL F := by
        intro w F
        induction w with
        | nil => rfl
        | cons c w ih => 
          show nlIf false ++ c :: toldL (noFl w ++ F) = _
          rw [ih]; rfl
      rw [tn]
    have hlw := split_le x (Str.ofString " ")
    rw [hsp, List.length_map] at hlw
    refine ⟨(w0 :: r).map W1, ls, pp, fw, wd, hsp, by rw [List.length_map]; lia, fun v hv => ?_, hst, ?_, ?_, ?_, ?_, ?_⟩
    · have := part_short (x := x) (y := Str.ofString " ") (by rw [hsp]; exact hv)
      lia
    · intro e
      rw [e, e_eq] at hwd
      cases hwd
    · rw [sumLen_snoc]
      dsimp only
      have := partLen_sum pp
      have : (ch wd).length = wd.length := ch_len wd
      lia
    · have hcm : c ∈ ch (Txt.join (Str.ofString "") ((pp ++ [(fw, wd)]).map partStr)) := by
        have := lineOf_ch (pp ++ [(fw, wd)])
        unfold lineOf at this
        rw [this]
        simp [hwd]
      unfold Txt.isspace
      rw [Bool.and_eq_false_iff]
      right
      rw [Bool.eq_false_iff]
      intro hall
      have hall' := Array.all_eq_true_iff_forall_mem.mp hall c (Array.mem_toList_iff.mp hcm)
      rw [space_no c hc1 hc2] at hall'
      cases hall'
    · have hg := size_glued (Str.ofString "\n") (ls ++ [lineOf (pp ++ [(fw, wd)])])
      have hg' : (Txt.join (Str.ofString "\n") (ls ++ [lineOf (pp ++ [(fw, wd)])])).length = _ := hg
      rw [← ch_len, hres, told_len] at hg'
      have h1 : (flAll width (w0 :: r)).length = x.length := by
        rw [← ch_len, hx, ← flAll_map width, List.length_map]
      have h2 := List.length_filter_le (fun p : Sg => p.2) (flAll width (w0 :: r))
      have h3 : (chunksOf ((w0 :: r).map W1)).length = (w0 :: r).length := by rw [chunksOf_length, List.length_map]
      refine joinOk_of_weight ?_ (by decide +kernel)
      rw [List.length_append, List.length_singleton]
      lia
    · exact ch_ext hres
end Mine
end
section
open PySem PySem.W PySem.Spec PyProof.Rows
namespace Mine
noncomputable def wordL (j : Nat) (a b : Bool) : List Nat := (97 + 2 * j) :: ((if a then [34] else []) ++ (if b then [98 + 2 * j] else []))
theorem word_is {j : Nat} (hj : j < 6) (k : Int) : ∃ a b, wordAt j k = W1 (wordL j a b) := by
  unfold wordAt
  have h1 : k.fmod 2 = 0 ∨ k.fmod 2 = 1 := by
    have := Int.fmod_nonneg_of_pos k (by decide : (0 : Int) < 2)
    have := Int.fmod_lt_of_pos k (by decide : (0 : Int) < 2)
    lia
  have h2 : (k.fdiv 2).fmod 2 = 0 ∨ (k.fdiv 2).fmod 2 = 1 := by
    have := Int.fmod_nonneg_of_pos (k.fdiv 2) (by decide : (0 : Int) < 2)
    have := Int.fmod_lt_of_pos (k.fdiv 2) (by decide : (0 : Int) < 2)
    lia
  generalize k.fmod 2 = u at h1
  generalize (k.fdiv 2).fmod 2 = v at h2
  have hd : ∀ i : Fin 6, ∀ a b : Bool, Txt.item (Str.ofString "acegik") ((i.val : Nat) : Int) ++ Txt.mul (Str.ofString "\"") (if a then 1 else 0) ++ Txt.mul (Txt.item (Str.ofString "bdfhjl") ((i.val : Nat) : Int)) (if b then 1 else 0) = W1 (wordL i.val a b) := by decide +kernel
  rcases h1 with rfl | rfl <;> rcases h2 with rfl | rfl
  · exact ⟨false, false, hd ⟨j, hj⟩ false false⟩
  · exact ⟨false, true, hd ⟨j, hj⟩ false true⟩
  · exact ⟨true, false, hd ⟨j, hj⟩ true false⟩
  · exact ⟨true, true, hd ⟨j, hj⟩ true true⟩
noncomputable def headN : List Nat → Nat
  | [] => 0
  | c :: _ => c
noncomputable def Let (c : Nat) : Prop := 97 ≤ c ∧ c ≤ 108
noncomputable def LN (b : Nat) : List Nat → Prop
  | [] => True
  | c :: r => (c = 32 ∧ Let (headN r) ∧ LN b r) ∨ (c = 34 ∧ LN b r) ∨ (97 ≤ c ∧ b ≤ c ∧ c ≤ 108 ∧ LN (c + 1) r)
theorem LN.mono : ∀ {l : List Nat} {b b' : Nat}, LN b l → b' ≤ b → LN b' l
  | [], _, _, _, _ => trivial
  | c :: r, b, b', h, hb => by
    rcases h with ⟨h1, h2, h3⟩ | ⟨h1, h2⟩ | ⟨h0, h1, h2, h3⟩
    · exact .inl ⟨h1, h2, h3.mono hb⟩
    · exact .inr (.inl ⟨h1, h2.mono hb⟩)
    · exact .inr (.inr ⟨h0, by lia, h2, h3⟩)
theorem LN.mem : ∀ {l : List Nat} {b : Nat}, LN b l → ∀ c ∈ l, c = 32 ∨ c = 34 ∨ (97 ≤ c ∧ b ≤ c ∧ c ≤ 108)
  | [], _, _, _, h => nomatch h
  | c :: r, b, h, x, hx => by
    rcases List.mem_cons.mp hx with rfl | hx
    · rcases h with ⟨h1, _⟩ | ⟨h1, _⟩ | ⟨h0, h1, h2, _⟩
      · exact .inl h1
      · exact .inr (.inl h1)
      · exact .inr (.inr ⟨h0, h1, h2⟩)
    · rcases h with ⟨_, _, h3⟩ | ⟨_, h2⟩ | ⟨_, h1, _, h3⟩
      · exact h3.mem x hx
      · exact h2.mem x hx
      · rcases h3.mem x hx with h | h | h
        · exact .inl h
        · exact .inr (.inl h)
        · exact .inr (.inr ⟨h.1, by lia, h.2.2⟩)
theorem LN.word {j : Nat} {a b : Bool} {l : List Nat} (hj : j < 6) (h : LN (99 + 2 * j) l) : LN (97 + 2 * j) (wordL j a b ++ l) := by
  have h2 : LN (98 + 2 * j) ((if b then [98 + 2 * j] else []) ++ l) := by
    cases b with
    | false => exact h.mono (by lia)
    | true => exact .inr (.inr ⟨by lia, by lia, by lia, h.mono (by lia)⟩)
  have h3 : LN (98 + 2 * j) ((if a then [34] else []) ++ ((if b then [98 + 2 * j] else []) ++ l)) := by
    cases a with
    | false => exact h2
    | true => exact .inr (.inl ⟨rfl, h2⟩)
  show LN (97 + 2 * j) ((97 + 2 * j) :: (((if a then [34] else []) ++ (if b then [98 + 2 * j] else [])) ++ l))
  rw [List.append_assoc]
  exact .inr (.inr ⟨by lia, by lia, by lia, h3.mono (by lia)⟩)
noncomputable def wsFrom (f : Nat → Bool × Bool) (j n : Nat) : List (List Nat) := (List.range' j n).map fun i => wordL i (f i).1 (f i).2
theorem LN.words (f : Nat → Bool × Bool) : ∀ n j, j + n ≤ 6 → LN (97 + 2 * j) ((wsFrom f j n).flatMap (32 :: ·))
  | 0, _, _ => trivial
  | n + 1, j, h => by
    have ih := LN.words f n (j + 1) (by lia)
    have e : (wsFrom f j (n + 1)).flatMap (32 :: ·) = 32 :: (wordL j (f j).1 (f j).2 ++ (wsFrom f (j + 1) n).flatMap (32 :: ·)) := by
      unfold wsFrom
      rw [List.range'_succ]
      simp
    rw [e]
    refine .inl ⟨rfl, ⟨?_, ?_⟩, LN.word (by lia) (by rw [show 99 + 2 * j = 97 + 2 * (j + 1) by lia]; exact ih)⟩
    · show 97 ≤ 97 + 2 * j; lia
    · show 97 + 2 * j ≤ 108; lia
noncomputable def GoodC : List Nat → Prop
  | [] => True
  | c :: r => c ≠ 10 ∧ (c = 32 → Let (headN r)) ∧ (c ≠ 32 → c ∉ r) ∧ GoodC r
theorem GoodC.suffix : ∀ {u t : List Nat}, GoodC (u ++ t) → GoodC t
  | [], _, h => h
  | _ :: _, _, h => GoodC.suffix h.2.2.2
theorem vis_sub (cl : Nat) : ∀ (l : List Nat) (m : Nat), (vis cl m l).Sublist l
  | [], _ => .slnil
  | c :: r, m => by
    rw [vis_cons]
    split
    · exact .cons _ (vis_sub cl r _)
    · exact .cons_cons _ (vis_sub cl r _)
theorem vis_good : ∀ (l : List Nat) (b m : Nat), LN b l → GoodC (vis ((m + l.count 34) / 2 * 2) m l)
  | [], _, _, _ => trivial
  | c :: r, b, m, h => by
    have e : m + (c :: r).count 34 = mk34 m c + r.count 34 := (mk34_count m c r).symm
    have ih : ∀ b', LN b' r → GoodC (vis ((m + (c :: r).count 34) / 2 * 2) (mk34 m c) r) := fun b' h' => by rw [e]; exact vis_good r b' _ h'
    generalize hcl : (m + (c :: r).count 34) / 2 * 2 = cl at ih
    have sub : ∀ m' x, x ∈ vis cl m' r → x ∈ r := fun m' x hx => (vis_sub cl r m').subset hx
    rw [vis_cons]
    rcases h with ⟨rfl, h2, h3⟩ | ⟨rfl, h2⟩ | ⟨h0, h1, h2, h3⟩
    · split
      · exact ih _ h3
      · rename_i hv
        refine ⟨by decide, fun _ => ?_, fun h => absurd rfl h, ih _ h3⟩
        cases r with
        | nil => obtain ⟨h2, _⟩ := h2; exact absurd h2 (by decide)
        | cons d r =>
          have hd : Let d := h2
          have e2 : hidN cl (mk34 m 32) d = hidN cl m 32 := by
            have : d ≠ 34 := by unfold Let at hd; lia
            unfold hidN
            show (decide (m < cl) && (d == 34 || m % 2 == 1)) = (decide (m < cl) && (32 == 34 || m % 2 == 1))
            rw [show (d == 34) = false by simpa using this]
            rfl
          rw [vis_cons, e2, if_neg hv]
          exact hd
    · split
      · exact ih _ h2
      · rename_i hv
        refine ⟨by decide, fun h => absurd h (by decide), fun _ => ?_, ih _ h2⟩
        have hm : ¬ m < cl := fun h => hv (by unfold hidN; rw [decide_eq_true h]; rfl)
        intro hx
        have := List.count_pos_iff.mpr (sub _ _ hx)
        rw [List.count_cons] at hcl
        simp at hcl
        lia
    · split
      · exact ih _ h3
      · refine ⟨by lia, fun h => by lia, fun _ hx => ?_, ih _ h3⟩
        have := h3.mem c (sub _ _ hx)
        lia
theorem good_letters : ∀ ws : List (List Nat), GoodC (ws.flatMap (32 :: ·)) → LetterIn ws
  | [], _, _, h => nomatch h
  | v :: r, h, w, hw => by
    have e : (v :: r).flatMap (32 :: ·) = 32 :: (v ++ r.flatMap (32 :: ·)) := by simp
    rw [e] at h
    rcases List.mem_cons.mp hw with rfl | hw
    · have h1 := h.2.1 rfl
      cases w with
      | nil =>
        rw [List.nil_append] at h1
        rcases tail_head r with h2 | ⟨t, h2⟩ <;> rw [h2] at h1 <;> first | exact absurd (show (97 : Nat) ≤ 32 from h1.1) (by decide) | exact absurd (show (97 : Nat) ≤ 0 from h1.1) (by decide)
      | cons c w => exact ⟨c, .head _, h1⟩
    · exact good_letters r (GoodC.suffix (u := v) h.2.2.2) w hw
theorem good_words {ws : List (List Nat)} (hw : ws ≠ []) (h : GoodC (joinB ws)) (h0 : Let (headN (joinB ws))) : LetterIn ws := by
  cases ws with
  | nil => exact absurd rfl hw
  | cons v r =>
    intro w hw
    rcases List.mem_cons.mp hw with rfl | hw
    · cases w with
      | nil =>
        have h1 : Let (headN (r.flatMap (32 :: ·))) := h0
        rcases tail_head r with h2 | ⟨t, h2⟩ <;> rw [h2] at h1 <;> first | exact absurd (show (97 : Nat) ≤ 32 from h1.1) (by decide) | exact absurd (show (97 : Nat) ≤ 0 from h1.1) (by decide)
      | cons c w => exact ⟨c, .head _, h0⟩
    · exact good_letters r (GoodC.suffix (u := v) h) w hw
noncomputable def zipT : List Sg → List Sg → List Fl
  | (c, a) :: F, (_, b) :: G => (c, a, b) :: zipT F G
  | _, _ => []
theorem zipT_is : ∀ (F G : List Sg), F.map Prod.fst = G.map Prod.fst → flsA (zipT F G) = F ∧ flsB (zipT F G) = G ∧ (zipT F G).map Prod.fst = F.map Prod.fst
  | [], [], _ => ⟨rfl, rfl, rfl⟩
  | [], _ :: _, h => by cases h
  | _ :: _, [], h => by cases h
  | (c, a) :: F, (d, b) :: G, h => by
    rw [List.map_cons, List.map_cons] at h
    injection h with h1 h2
    obtain ⟨i1, i2, i3⟩ := zipT_is F G h2
    have h1' : c = d := h1
    subst h1'
    refine ⟨?_, ?_, ?_⟩
    · show (c, a) :: flsA (zipT F G) = _; rw [i1]
    · show (c, b) :: flsB (zipT F G) = _; rw [i2]
    · show c :: (zipT F G).map Prod.fst = _; rw [i3]; rfl
theorem headS_is (T : List Fl) : headS T = headN (T.map Prod.fst) := by cases T <;> rfl
theorem goodT_of : ∀ (T : List Fl), GoodC (T.map Prod.fst) → AtBlank (flsA T) → AtBlank (flsB T) → GoodT T
  | [], _, _, _ => trivial
  | (c, a, b) :: t, h, ha, hb => by
    obtain ⟨h1, h2, h3, h4⟩ := h
    refine ⟨h1, fun hab => ?_, fun h32 => ?_, h3, goodT_of t h4 (fun p hp => ha p (.tail _ hp)) fun p hp => hb p (.tail _ hp)⟩
    · rcases hab with h | h
      · exact ha (c, a) (.head _) h
      · exact hb (c, b) (.head _) h
    · rw [headS_is]
      have := h2 h32
      unfold Let at this
      lia
theorem visF_at (cl : Nat) : ∀ (F : List Sg) (m : Nat), AtBlank F → AtBlank (visF cl m F)
  | [], _, _ => fun _ h => nomatch h
  | (c, e) :: r, m, h => by
    have ih := visF_at cl r (mk34 m c) fun p hp => h p (.tail _ hp)
    show AtBlank (if hidN cl m c then visF cl (mk34 m c) r else (c, e) :: visF cl (mk34 m c) r)
    split
    · exact ih
    · intro p hp
      rcases List.mem_cons.mp hp with rfl | hp
      · exact h _ (.head _)
      · exact ih p hp
theorem flags_le : ∀ F : List Sg, AtBlank F → (F.filter (·.2)).length ≤ (F.map Prod.fst).count 32
  | [], _ => Nat.le_refl _
  | (c, e) :: r, h => by
    have ih := flags_le r fun p hp => h p (.tail _ hp)
    rw [List.filter_cons, List.map_cons, List.count_cons]
    cases e with
    | false => simp only [Bool.false_eq_true, if_false]; lia
    | true =>
      have : c = 32 := h _ (.head _) rfl
      subst this
      simp
      exact ih
theorem low_letters (c : Nat) (h : c = 10 ∨ c = 32 ∨ c = 34 ∨ (97 ≤ c ∧ c ≤ 108)) : Txt.lower ⟨#[c]⟩ = ⟨#[c]⟩ := by
  have h1 : ∀ i : Fin 12, Txt.lower ⟨#[97 + i.val]⟩ = ⟨#[97 + i.val]⟩ := by decide +kernel
  rcases h with rfl | rfl | rfl | h
  · decide +kernel
  · decide +kernel
  · decide +kernel
  · have h2 := h1 ⟨c - 97, by lia⟩
    simp only at h2
    rwa [show 97 + (c - 97) = c by lia] at h2
end Mine
end
section
open PySem PySem.W PySem.Spec PyProof.Rows
namespace Mine
theorem wordL_len (j : Nat) (a b : Bool) : (wordL j a b).length ≤ 3 := by cases a <;> cases b <;> simp [wordL]
theorem wordL_bf {j : Nat} {a b : Bool} (hj : j < 6) : ∀ c ∈ wordL j a b, c ≠ 32 := by
  intro c hc
  unfold wordL at hc
  rcases List.mem_cons.mp hc with rfl | hc
  · lia
  · rcases List.mem_append.mp hc with hc | hc
    · cases a with
      | false => cases hc
      | true => rw [if_pos rfl] at hc; rw [List.mem_singleton.mp hc]; decide
    · cases b with
      | false => cases hc
      | true => rw [if_pos rfl] at hc; rw [List.mem_singleton.mp hc]; lia
theorem wsFrom_mem {f : Nat → Bool × Bool} {j n : Nat} {w : List Nat} (h : w ∈ wsFrom f j n) : ∃ i, j ≤ i ∧ i < j + n ∧ w = wordL i (f i).1 (f i).2 := by
  obtain ⟨i, hi, rfl⟩ := List.mem_map.mp h
  have := List.mem_range'.mp hi
  obtain ⟨k, hk, rfl⟩ := this
  exact ⟨_, by lia, by lia, rfl⟩
theorem words_are (ks : List Int) : ∃ f : Nat → Bool × Bool, wordsTo ks 6 = (wsFrom f 0 6).map W1 := by
  have h : ∀ j, ∃ p : Bool × Bool, j < 6 → wordAt j (ks.getD j 0) = W1 (wordL j p.1 p.2) := by
    intro j
    by_cases hj : j < 6
    · obtain ⟨a, b, h⟩ := word_is hj (ks.getD j 0)
      exact ⟨(a, b), fun _ => h⟩
    · exact ⟨(false, false), fun h => absurd h hj⟩
  refine ⟨fun j => Classical.choose (h j), ?_⟩
  unfold wordsTo wsFrom
  rw [List.range_eq_range', List.map_map]
  apply List.map_congr_left
  intro j hj
  obtain ⟨k, hk, rfl⟩ := List.mem_range'.mp hj
  exact Classical.choose_spec (h _) (by lia)
theorem joinB_len : ∀ r : List (List Nat), (∀ w ∈ r, w.length ≤ 3) → (r.flatMap (32 :: ·)).length ≤ 4 * r.length
  | [], _ => Nat.zero_le _
  | w :: r, h => by
    have ih := joinB_len r fun v hv => h v (.tail _ hv)
    have := h w (.head _)
    simp only [List.flatMap_cons, List.length_append, List.length_cons]
    lia
theorem joinB_blanks : ∀ r : List (List Nat), BlankFree r → (r.flatMap (32 :: ·)).count 32 = r.length
  | [], _ => rfl
  | w :: r, h => by
    have ih := joinB_blanks r fun v hv => h v (.tail _ hv)
    have h0 : w.count 32 = 0 := List.count_eq_zero.mpr fun hm => h w (.head _) 32 hm rfl
    rw [List.flatMap_cons, List.count_append, List.count_cons, h0, ih]
    simp
    lia
structure LineIs (L : List Nat) (ws : List (List Nat)) : Prop where
  eq : L = joinB ws
  ne : ws ≠ []
  bf : BlankFree ws
  lets : LetterIn ws
  ln : LN 97 L
  len : L.length ≤ 23
  blanks : L.count 32 ≤ 5
  head : Let (headN L)
theorem line_is (f : Nat → Bool × Bool) : LineIs (joinB (wsFrom f 0 6)) (wsFrom f 0 6) := by
  have e : wsFrom f 0 6 = wordL 0 (f 0).1 (f 0).2 :: wsFrom f 1 5 := rfl
  have bf : BlankFree (wsFrom f 0 6) := fun w hw c hc => by
    obtain ⟨i, h1, h2, rfl⟩ := wsFrom_mem hw
    exact wordL_bf (by lia) c hc
  have l3 : ∀ w ∈ wsFrom f 1 5, w.length ≤ 3 := fun w hw => by
    obtain ⟨i, h1, h2, rfl⟩ := wsFrom_mem hw
    exact wordL_len _ _ _
  have n5 : (wsFrom f 1 5).length = 5 := by simp [wsFrom]
  have l0 := wordL_len 0 (f 0).1 (f 0).2
  have lb := joinB_len _ l3
  have bb := joinB_blanks (wsFrom f 1 5) (fun w hw => bf w (by rw [e]; exact .tail _ hw))
  have b0 : (wordL 0 (f 0).1 (f 0).2).count 32 = 0 := List.count_eq_zero.mpr fun hm => wordL_bf (by decide) 32 hm rfl
  refine ⟨rfl, by rw [e]; simp, bf, fun w hw => ?_, ?_, ?_, ?_, ?_⟩
  · obtain ⟨i, h1, h2, rfl⟩ := wsFrom_mem hw
    exact ⟨97 + 2 * i, .head _, by lia, by lia⟩
  · rw [e]
    exact LN.word (j := 0) (by decide) (LN.words f 5 1 (by decide))
  · rw [e]
    show (wordL 0 (f 0).1 (f 0).2 ++ (wsFrom f 1 5).flatMap (32 :: ·)).length ≤ 23
    rw [List.length_append]
    lia
  · rw [e]
    show (wordL 0 (f 0).1 (f 0).2 ++ (wsFrom f 1 5).flatMap (32 :: ·)).count 32 ≤ 5
    rw [List.count_append, b0, bb, n5]
    exact Nat.le_refl _
  · rw [e]
    exact ⟨show 97 ≤ 97 from Nat.le_refl _, show 97 ≤ 108 by decide⟩
theorem asc_of {x : Str} (h : ∀ c ∈ ch x, c < 128) : x.cps.all (· < 128) = true := by
  rw [Array.all_eq_true_iff_forall_mem]
  intro c hc
  simpa using h c (Array.mem_toList_iff.mpr hc)
theorem law_of {ks : List Int} {line : Str} {ws : List (List Nat)} (wd : Int) (hline : line = Txt.join (Str.ofString " ") (wordsTo ks 6)) (hL : LineIs (ch line) ws) (hws : wordsTo ks 6 = ws.map W1) (h3 : ∀ w ∈ ws, w.length ≤ 3) (h6 : ws.length = 6) :
    ∃ left fo1 fo2 one two, LawFacts ks line left fo1 fo2 one two wd := by
  -- the line
  have lineLen : line.length ≤ 23 := by rw [← ch_len]; exact hL.len
  have mem := hL.ln.mem
  -- the visible text
  have lch := left_is line
  have hgood : GoodC (ch (leftOf line)) := by
    rw [lch]
    have := vis_good (ch line) 97 0 hL.ln
    rw [Nat.zero_add] at this
    exact this
  have hsub : (ch (leftOf line)).Sublist (ch line) := by rw [lch]; exact vis_sub _ _ _
  have leftLen : (leftOf line).length ≤ 23 := by rw [← ch_len]; exact Nat.le_trans hsub.length_le hL.len
  have leftHead : Let (headN (ch (leftOf line))) := by
    rw [lch]
    have hh := hL.head
    generalize ch line = l at hh
    cases l with
    | nil => exact absurd hh.1 (by decide)
    | cons c r =>
      have hc : Let c := hh
      have : hidN (clOf (c :: r)) 0 c = false := by
        unfold hidN
        have : (c == 34) = false := by unfold Let at hc; simp; lia
        rw [this]
        simp
      rw [vis_cons, this]
      exact hc
  obtain ⟨vs, hvs1, hvs2, hvs3⟩ : ∃ vs : List (List Nat), ch (leftOf line) = joinB vs ∧ vs ≠ [] ∧ BlankFree vs := by
    have h1 := StrLaws.join_split (leftOf line) ⟨#[32]⟩
    have h2 := StrLaws.split_free (leftOf line) 32
    have h3 := PyProof.Rows.split_pos (leftOf line) ⟨#[32]⟩
    rw [← b_eq, ← join_eq] at h1
    rw [← b_eq] at h2 h3
    generalize Txt.split (leftOf line) (Str.ofString " ") = l at h1 h2 h3
    have hl : l ≠ [] := fun e => by rw [e] at h3; simp at h3
    have h4 := joinB_ch l hl
    rw [h1] at h4
    refine ⟨l.map ch, h4, by simpa using hl, fun w hw c hc => ?_⟩
    obtain ⟨v, hv, rfl⟩ := List.mem_map.mp hw
    intro e
    exact h2 v hv (e ▸ hc)
  have hvs4 : LetterIn vs := good_words hvs2 (by rw [← hvs1]; exact hgood) (by rw [← hvs1]; exact leftHead)
  -- the flagged texts
  generalize hF : flAll wd ws = F
  have F_map : F.map Prod.fst = ch line := by rw [← hF, flAll_map, hL.eq]
  have F_at : AtBlank F := by rw [← hF]; exact flAll_at _ _
  generalize hF1 : visF (clOf (ch line)) 0 F = F1
  have F1_map : F1.map Prod.fst = ch (leftOf line) := by rw [← hF1, visF_map, F_map, lch]
  have F1_at : AtBlank F1 := by rw [← hF1]; exact visF_at _ _ _ F_at
  generalize hF2 : flAll wd vs = F2
  have F2_map : F2.map Prod.fst = ch (leftOf line) := by rw [← hF2, flAll_map, hvs1]
  have F2_at : AtBlank F2 := by rw [← hF2]; exact flAll_at _ _
  have ends1 : endsOf line wd = posFrom 0 F := by rw [← hF]; exact ends_is hL.eq hL.ne hL.bf
  have ends2 : endsOf (leftOf line) wd = posFrom 0 F2 := by rw [← hF2]; exact ends_is hvs1 hvs2 hvs3
  have one1 : oneOf line wd = posFrom 0 F1 := by
    have := one_is (clOf (ch line)) F 0 []
    rw [F_map, hF1] at this
    unfold oneOf hidAt
    rw [ends1, hidden_is]
    exact this
  have F_len : F.length ≤ 23 := by rw [← List.length_map (f := Prod.fst), F_map]; exact hL.len
  have F1_len : F1.length ≤ 23 := by rw [← List.length_map (f := Prod.fst), F1_map, ch_len]; exact leftLen
  have F2_len : F2.length ≤ 23 := by rw [← List.length_map (f := Prod.fst), F2_map, ch_len]; exact leftLen
  have told1 : ch (toldOf (leftOf line) (posFrom 0 F1)) = toldL F1 := told_is F1_map.symm
  have told2 : ch (toldOf (leftOf line) (posFrom 0 F2)) = toldL F2 := told_is F2_map.symm
  have b5 : (ch (leftOf line)).count 32 ≤ 5 := Nat.le_trans (hsub.count_le 32) hL.blanks
  have fl1 := flags_le F1 F1_at
  have fl2 := flags_le F2 F2_at
  rw [F1_map] at fl1
  rw [F2_map] at fl2
  have leftMem : ∀ c ∈ ch (leftOf line), c = 32 ∨ c = 34 ∨ (97 ≤ c ∧ 97 ≤ c ∧ c ≤ 108) := fun c hc => mem c (hsub.subset hc)
  have low : ∀ {x : Str} {G : List Sg}, ch x = toldL G → G.map Prod.fst = ch (leftOf line) → LowOk x := fun hx hG c hc => by
    have hc' := hc
    rw [show Array.toList _ = ch _ from rfl, hx] at hc'
    refine low_letters c ?_
    rcases told_mem hc' with h | h
    · exact .inl h
    · rw [hG] at h
      have := leftMem c h
      lia
  obtain ⟨z1, z2, z3⟩ := zipT_is F1 F2 (F1_map.trans F2_map.symm)
  have G : GoodT (zipT F1 F2) := goodT_of _ (by rw [z3, F1_map]; exact hgood) (by rw [z1]; exact F1_at) (by rw [z2]; exact F2_at)
  have due1 : dueOf (posFrom 0 F1) (posFrom 0 F2) = 2 * (apart (zipT F1 F2) : Int) := by
    have := due_is (zipT F1 F2) 0
    rw [z1, z2] at this
    unfold dueOf
    lia
  have ff1 := fold_facts (x := line) (width := wd) hL.eq hL.ne hL.bf hL.lets (by lia)
  have ff2 := fold_facts (x := leftOf line) (width := wd) hvs1 hvs2 hvs3 hvs4 (by lia)
  rw [hF] at ff1
  rw [hF2] at ff2
  have toldF : (toldL F).length ≤ 46 := by
    rw [told_len]
    have := List.length_filter_le (fun p : Sg => p.2) F
    lia
  have cl1 : clOf (toldL F) = clOf (ch line) := by unfold clOf; rw [told_count, F_map]
  refine ⟨leftOf line, W1 (toldL F), W1 (toldL F2), posFrom 0 F1, posFrom 0 F2, ?_⟩
  exact {
    hline := hline
    hleft := rfl
    hone := one1.symm
    htwo := ends2.symm
    jok := by
      rw [hws]
      refine joinOk_of_weight ?_ (by decide +kernel)
      have sum3 : ∀ l : List (List Nat), (∀ w ∈ l, w.length ≤ 3) → ((l.map W1).map (·.length)).sum ≤ 3 * l.length := by
        intro l
        induction l with
        | nil => intro _; exact Nat.le_refl _
        | cons w r ih =>
          intro h
          have := ih fun v hv => h v (.tail _ hv)
          have := h w (.head _)
          have e : (W1 w).length = w.length := by rw [← ch_len]; rfl
          simp only [List.map_cons, List.sum_cons, List.length_cons, e]
          lia
      have := sum3 ws h3
      rw [List.length_map, h6] at *
      lia
    asc := asc_of fun c hc => by have := mem c hc; lia
    len := Nat.le_trans lineLen (by decide)
    hidlen := hidden_len line
    jokL := by
      rw [leftParts_is, ← lch]
      refine joinOk_of_weight ?_ (by decide +kernel)
      have sum1 : ∀ l : List Nat, ((l.map fun c => (⟨#[c]⟩ : Str)).map (·.length)).sum = l.length := by
        intro l
        induction l with
        | nil => rfl
        | cons c r ih => simp only [List.map_cons, List.sum_cons, List.length_cons, ih]; show 1 + _ = _; lia
      rw [sum1, List.length_map, ch_len]
      lia
    ascL := asc_of fun c hc => by have := leftMem c hc; lia
    lenL := Nat.le_trans leftLen (by decide)
    endsIn := fun s hs => by
      rw [ends1] at hs
      have := posFrom_ge 0 F s hs
      have e : F.length = line.cps.size := by rw [← List.length_map (f := Prod.fst), F_map, ch_len]; rfl
      rw [← e]
      lia
    endsLen := by
      rw [ends1, posFrom_len]
      exact Nat.le_trans (List.length_filter_le _ _) (by lia)
    twoLen := by
      rw [posFrom_len]
      exact Nat.le_trans (List.length_filter_le _ _) (by lia)
    fold1 := ff1
    strip1 := ⟨asc_of fun c hc => by
        rcases told_mem (show c ∈ toldL F from hc) with h | h
        · lia
        · rw [F_map] at h
          have := mem c h
          lia, by rw [← ch_len]; show (toldL F).length ≤ 1000; lia, fun c hc => by
        rcases told_mem (show c ∈ toldL F from hc) with h | h
        · lia
        · rw [F_map] at h
          have := mem c h
          lia⟩
    strip2 := ⟨asc_of fun c hc => by have := mem c hc; lia, by lia, fun c hc => by have := mem c hc; lia⟩
    hstrip := ch_ext ((strip_is line).trans lch.symm)
    fold2 := ff2
    eq1 := ch_ext (by
      rw [strip_is, told1]
      show vis (clOf (toldL F)) 0 (toldL F) = _
      rw [cl1, vis_told _ _ _ F_at, hF1])
    eq2 := ch_ext told2.symm
    lenA := by
      rw [← ch_len, told1, told_len]
      lia
    lenB := by
      rw [← ch_len, told2, told_len]
      lia
    lowA := low told1 F1_map
    lowB := low told2 F2_map
    lev := by
      rw [due1]
      refine levPure_told G ?_ ?_
      · rw [strA_told, z1]; exact told1
      · rw [strB_told, z2]; exact told2 }
theorem law_facts {ks : List Int} (_ : ks.length = 6) (n : Int) : ∃ line left fo1 fo2 one two, LawFacts ks line left fo1 fo2 one two (4 + n.fmod 6) := by
  obtain ⟨f, hf⟩ := words_are ks
  have hL := line_is f
  refine ⟨_, law_of (4 + n.fmod 6) rfl ?_ hf (fun w hw => ?_) rfl⟩
  · have e : ch (Txt.join (Str.ofString " ") (wordsTo ks 6)) = joinB (wsFrom f 0 6) := by
      rw [hf, joinB_ch _ (by simp [wsFrom]), List.map_map]
      have : ch ∘ W1 = id := by funext w; rfl
      rw [this, List.map_id]
    rw [e]
    exact hL
  · obtain ⟨i, _, _, rfl⟩ := wsFrom_mem hw
    exact wordL_len _ _ _
end Mine
end
section
open PySem PySem.W PySem.Spec PySem.Calls PyProof.Rows Builtin Builtin.ObjectAttr
open PySem.SeqAt
namespace Mine
theorem boolsAre_take : ∀ {vs : List Value} {bs : List Bool} (k : Nat), LSm.BoolsAre vs bs → LSm.BoolsAre (vs.take k) (bs.take k)
  | _, _, 0, _ => by simpa using LSm.BoolsAre.nil
  | _, _, _ + 1, .nil => .nil
  | _, _, k + 1, .cons b r => .cons b (boolsAre_take k r)
theorem boolsAre_mem : ∀ {vs : List Value} {bs : List Bool}, LSm.BoolsAre vs bs → ∀ y ∈ vs, ∃ b, y = .bool b
  | _, _, .nil, _, h => nomatch h
  | _, _, .cons b r, y, h => by
    rcases List.mem_cons.mp h with rfl | h
    · exact ⟨b, rfl⟩
    · exact boolsAre_mem r y h
theorem boolsAre_count : ∀ {vs : List Value} {bs : List Bool}, LSm.BoolsAre vs bs → vs.countP (isBoolOf true) = (bs.filter id).length
  | _, _, .nil => rfl
  | _, _, .cons b r => by
    rw [List.countP_cons, boolsAre_count r]
    cases b <;> simp [isBoolOf]
section
variable {prog : Program} {w : World} {A : Around} {E : Value → Shared → Prop} {s : Shared} {h₀ : Heap} {L l : Addr} {m : Str → Option Value} {news : List (Addr × Obj)}
theorem slice_bools {value slice : PySem.Expr} {vl vu : Value} {k : Int} {vs : List Value} {bs : List Bool} {n : Nat} {Q : Value → Shared → Prop} (F : Fr h₀ L s.heap m) (N : News h₀ L s.heap news) (hl : (l, W.listOf vs.toArray n) ∈ news) (hb : LSm.BoolsAre vs bs)
    (pl : IsPart vl none) (pu : IsPart vu (some k)) (h0 : 0 ≤ k)
    (h : ∀ D h' ws, Fr h₀ L h' m → News h₀ L h' ((D, W.listOf (ws : List Value).toArray 0) :: news) → (∀ p ∈ news, p.1 < D) → LSm.BoolsAre ws (bs.take k.toNat) → Q (.ref D) { s with heap := h' })
    (hs : subscripted slice false (.ref l) (.ref s.heap.objs.size) = operate [.ref s.heap.objs.size, .ref l] (getItem (.ref l) (.ref s.heap.objs.size))) (ht : ∀ r, letTemporaryGo value (.ref l) r = pure ()) (hz : bs.length ≤ 1000) :
    wpAny (model prog w) A (subscriptTail value slice (.ref l) (.ref s.heap.objs.size)) Q E { s with heap := s.heap.push { cls := .type "slice", data := .fields #[vl, vu, .none] } } := by
  have e : (slicePick vs.toArray none (some k) none).toList = vs.take k.toNat := by
    obtain ⟨j, rfl⟩ : ∃ j : Nat, k = (j : Int) := ⟨k.toNat, by lia⟩
    rw [slicePick_upto']
    simp
  exact kmk_slice_lit F N ⟨_, (N _ hl).1, rfl, n, rfl⟩ pl pu e (fun D h' F' N' l1 => h D h' _ F' N' l1 (boolsAre_take _ hb)) hs ht (by rw [List.size_toArray, hb.length, sizeLine_eq]; lia)
theorem count_bools {vs : List Value} {bs : List Bool} {n : Nat} {Q : Value → Shared → Prop} (N : News h₀ L s.heap news) (hl : (l, W.listOf vs.toArray n) ∈ news) (hb : LSm.BoolsAre vs bs)
    (h : Q (.int ((bs.filter id).length : Nat) s.toks) { s with toks := s.toks + 1 }) : wpAny (model prog w) A (call (.builtin "list.count") [.ref l, .bool true]) Q E s := by
  have ho := (N _ hl).1
  refine call_meets PySem.F.slot_list_count ⟨_, ho, rfl⟩ PySem.F.entry_list_count (PySem.F.args_list_count_2 _ _) (list_countAt l vs.toArray n _ _ (.bool true) (isBoolOf true)) ⟨ho, fun y hy => ?_, ?_⟩
  · obtain ⟨b, rfl⟩ := boolsAre_mem hb y (by simpa using hy)
    exact EqAt.bool_bool b true
  · rw [show vs.toArray.toList = vs from rfl, boolsAre_count hb]
    exact h
end
end Mine
end
example : True ∧ True := by first | (w_top off; walk1; done) | exact ⟨trivial, trivial⟩
section
open PySem PySem.W PySem.Spec PySem.Calls PyProof.Rows Builtin Builtin.ObjectAttr
open PyProof.Rows.LCg (lst lst_snoc)
example : (fun (_ : OpenLaw) (_ : Params → Frag) => True) PySem.Challenge.rw_tc0044_01 Mine.hd.heap_39 := by k_fill; trivial
namespace Mine
section
variable {w : World} {pT : Program} {loose : List Str} {mean : ExcName → Option Value} {mg mb : Str → Option Value}
variable {dp un : Nat} {gd : Option (List Code)} {cn : Str} {cs : Scope} {a : Addr} {ccd : Value} {cl : List (Str × Addr)} {outer : List Env} {A₀ : Around} {base h₀ : Heap} {L : Addr} {m : Str → Option Value} {s : Shared} {Q E : Value → Shared → Prop}
theorem folded_f {text r : Str} {width : Int} {t0 t1 : Tok} {ps ps2 : Array Value} {nw : List (Addr × Obj)} (PF : FoldFacts text width r)
    (B : Below A₀ base outer h₀) (F : Fr h₀ L s.heap m) (X : (Mine.hd.heap_39 w.params).In h₀) (T : Top pT loose mean mg mb h₀) (hk : cs.kind = .function)
    (hd1 : dp + 100 < recursionLimit) (hu : un + 400 < cLine) (G : AllBare s.gens) (hoff : ∀ p ∈ nw, @Ne Nat p.1 154) (hoff2 : ∀ p ∈ nw, @Ne Nat p.1 161)
    (N : News h₀ L s.heap ((154, tabObj ps) :: (161, tabObj ps2) :: nw)) (ht : TriplesOk ps.toList) (ht2 : TriplesOk ps2.toList)
    (hret : ∀ t' ps' ps2' h' g' tk', Fr h₀ L h' m → News h₀ L h' ((154, tabObj ps') :: (161, tabObj ps2') :: nw) → TriplesOk ps'.toList → TriplesOk ps2'.toList → AllBare g' → Q (.str r t') ⟨h', g', s.drawn, tk', s.os⟩) :
    wpAny (model PySem.Challenge.pw_tc0044_01 w) (ktrTop dp un gd cn cs L a ccd cl outer) (call (.ref 217) [.str text t0, .int width t1]) Q E s := by
  obtain ⟨words, ls, pp, fw, wd, hsp, hwl, hww, hfin, hwd0, hpos, hws, hj, rfl⟩ := PF.parts
  refine folded_call B F X T hk hd1 PF.len hsp hwl hww hu G hoff hoff2 N ht ht2 hfin hwd0 hpos hws hj ?_
  intro t' ps' ps2' nw' h' g' tk' F' N' sub T1 T2 G'
  refine hret t' ps' ps2' h' g' tk' F' (fun p hp => N' p ?_) T1 T2 G'
  rcases List.mem_cons.mp hp with rfl | hp
  · exact .head _
  · rcases List.mem_cons.mp hp with rfl | hp
    · exact .tail _ (.head _)
    · exact .tail _ (.tail _ (sub p hp))
theorem strip_f {text r : Str} {tt : Tok} {nw : List (Addr × Obj)} (PS : StripFacts text) (hr : stripOf text = r)
    (B : Below A₀ base outer h₀) (F : Fr h₀ L s.heap m) (X : (Mine.hd.heap_39 w.params).In h₀) (T : Top pT loose mean mg mb h₀) (hk : cs.kind = .function) (hd1 : dp + 40 < recursionLimit) (N : News h₀ L s.heap nw) (G : AllBare s.gens)
    (hret : ∀ t' h' g' tk', Fr h₀ L h' m → News h₀ L h' nw → AllBare g' → Q (.str r t') ⟨h', g', s.drawn, tk', s.os⟩) :
    wpAny (model PySem.Challenge.pw_tc0044_01 w) (ktrTop dp un gd cn cs L a ccd cl outer) (call (.ref 35) [.str text tt]) Q E s :=
  strip_call B F X T hk hd1 N PS.asc PS.len PS.nob G (by rw [hr]; exact hret)
theorem told_f {text r : Str} {tt : Tok} {e : Addr} {ll : List (Int × Tok)} {n : Nat} {nw : List (Addr × Obj)} (hr : toldOf text (ll.map Prod.fst) = r)
    (B : Below A₀ base outer h₀) (F : Fr h₀ L s.heap m) (X : (Mine.hd.heap_39 w.params).In h₀) (T : Top pT loose mean mg mb h₀) (hk : cs.kind = .function) (hd1 : dp + 12 < recursionLimit) (N : News h₀ L s.heap nw) (hm : (e, W.listOf (intValues ll).toArray n) ∈ nw) (ha : text.cps.all (· < 128) = true) (hsz : text.cps.size ≤ 30)
    (hret : ∀ t' h' tk', Fr h₀ L h' m → News h₀ L h' nw → Q (.str r t') ⟨h', s.gens, s.drawn, tk', s.os⟩) :
    wpAny (model PySem.Challenge.pw_tc0044_01 w) (ktrTop dp un gd cn cs L a ccd cl outer) (call (.ref 234) [.str text tt, .ref e]) Q E s := by
  refine told_call (ll := ll) (n := n) (nw := nw) B F X T hk hd1 (fun p hp => ?_) ha (Nat.le_trans hsz (by decide)) fun t' h' tk' F' N' => ?_
  · rcases List.mem_cons.mp hp with rfl | hp
    · exact N _ hm
    · exact N p hp
  · rw [hr]
    exact hret t' h' tk' F' (fun p hp => N' p (.tail _ hp))
theorem lev_f {a1 b1 : Str} {ta tb tm : Tok} {mc v : Int} {nw : List (Addr × Obj)} (hv : levPure a1 b1 mc = v)
    (B : Below A₀ base outer h₀) (F : Fr h₀ L s.heap m) (X : (Mine.hd.heap_39 w.params).In h₀) (T : Top pT loose mean mg mb h₀) (hk : cs.kind = .function) (hd1 : dp + 12 < recursionLimit) (N : News h₀ L s.heap nw) (hsa : a1.length ≤ 40) (hsb : b1.length ≤ 40)
    (hla1 : LowOk a1) (hlb1 : LowOk b1) (hret : ∀ t' h' tk', Fr h₀ L h' m → News h₀ L h' nw → Q (.int v t') ⟨h', s.gens, s.drawn, tk', s.os⟩) :
    wpAny (model PySem.Challenge.pw_tc0044_01 w) (ktrTop dp un gd cn cs L a ccd cl outer) (call (.ref 210) [.str a1 ta, .str b1 tb, .int mc tm]) Q E s :=
  lev_call B F X T hk hd1 N hsa hsb hla1 hlb1 (by rw [hv]; exact hret)
end
theorem law_elim {ks : List Int} {n : Int} {G : Prop} (h : ks.length = 6) (k : ∀ line left fo1 fo2 one two, LawFacts ks line left fo1 fo2 one two (4 + n.fmod 6) → G) : G := by
  obtain ⟨line, left, fo1, fo2, one, two, h⟩ := law_facts h n
  exact k line left fo1 fo2 one two h
noncomputable def Hold (P : Prop) : Prop := P
theorem hold_217 {prog : Program} {w : World} {A : Around} {E Q : Value → Shared → Prop} {s : Shared} {as : List Value} (h : Hold (wpAny (model prog w) A (call (.ref 217) as) Q E s)) : wpAny (model prog w) A (call (.ref 217) as) Q E s := h
theorem hold_234 {prog : Program} {w : World} {A : Around} {E Q : Value → Shared → Prop} {s : Shared} {as : List Value} (h : Hold (wpAny (model prog w) A (call (.ref 234) as) Q E s)) : wpAny (model prog w) A (call (.ref 234) as) Q E s := h
theorem cell_of {h₀ h : Heap} {L a : Addr} {l : List (Addr × Obj)} {v : Value} {o : Obj} (_ : News h₀ L h l) (hd : o.data = .cell (some v)) (hm : (a, o) ∈ l) : ∃ c : Obj, c.data = .cell (some v) ∧ (a, c) ∈ l := ⟨o, hd, hm⟩
theorem len_led {prog : Program} {w : World} {A : Around} {E Q : Value → Shared → Prop} {s : Shared} {h₀ : Heap} {L D : Addr} {l : List (Addr × Obj)} {vs : List Value} {ns : List Int} {n : Nat} (N : News h₀ L s.heap l) (hm : (D, W.listOf vs.toArray n) ∈ l) (hi : IntsAre vs ns) (hf : ns.length < 2 ^ 62)
    (h : Q (.int (ns.length : Nat) (s.toks + 1)) { s with toks := s.toks + 1 + 1 }) : wpAny (model prog w) A (call (.builtin "len") [.ref D]) Q E s :=
  Calls.call_len_list (News.isList N hm) (by rw [List.size_toArray, hi.length]; omega) (by rw [List.size_toArray, hi.length]; exact h)
theorem mul_le {n : Nat} {z : Int} (h : 0 ≤ z → (n : Int) = ((1 : Nat) : Int) * z) (h0 : 0 ≤ z) (h1 : z < 2) : n ≤ 1 := by have := h h0; lia
theorem cat_le {a b c : Nat} (h : a + b ≤ c ∧ c ≤ a + b) (ha : a = 1) (hb : b ≤ 1) : c ≤ 2 := by lia
theorem lt7 {D : Nat} {a b c d e f g : Addr × Obj} (h : @LT.lt Nat _ a.1 D ∧ @LT.lt Nat _ b.1 D ∧ @LT.lt Nat _ c.1 D ∧ @LT.lt Nat _ d.1 D ∧ @LT.lt Nat _ e.1 D ∧ @LT.lt Nat _ f.1 D ∧ @LT.lt Nat _ g.1 D) : ∀ p ∈ [a, b, c, d, e, f, g], @LT.lt Nat _ p.1 D := by
  simp only [List.forall_mem_cons]
  exact ⟨h.1, h.2.1, h.2.2.1, h.2.2.2.1, h.2.2.2.2.1, h.2.2.2.2.2.1, h.2.2.2.2.2.2, List.forall_mem_nil _⟩
theorem law_walk : PySem.Challenge.rw_tc0044_01.Holds := hd (by
  intro w s₀ s₁ mg mb G Y fa o pm cd doc dV kV ho hdd hcd hD hmg hg args vals as hpre hlay hrd hwl hlo
  have KX := km_in_of Y
  have hT8 := km_tabs_of Y
  have X := (Ground.X G).1
  have V := (Ground.X G).2
  refine Ground.open G ?_
  intro T B D TE TW
  try (refine guard_noD D (by decide +kernel) ?_; clear D)
  have hT9 : TabsAt [(158, 154), (165, 161)] s₁.heap := List.forall_mem_cons.mpr ⟨⟨codeHd_len KX, hT8 154 (by decide)⟩, List.forall_mem_cons.mpr ⟨⟨codeHd_str KX, hT8 161 (by decide)⟩, fun _ h => nomatch h⟩⟩
  clear hmg
  wrow_args hpre hlay hrd hwl hlo
  all_goals (
    first | refine callC_kw (enter_call ?_) | refine enter_call ?_
    w_top on
    refine law_post hT9 (fun _ _ => rfl) (law_says _) ?_
    w_call any ho hdd hcd hD T F
    clear hdd
    kn_ghosts F T
    k_drop
    try k_fold
    try dsimp only)
  refine wpAny_mono (Q := BodyEnd (ghostOf s₁.heap [(158, 154), (165, 161)]) s₁.heap.objs.size s₁) (E := fun _ _ => False) ?_ (fun f s' h => body_end rfl h) (fun _ _ h => h.elim)
  skip
  rename_i nsI hs1 hs2 hs3 hs4 hs5 as1 as2 q vs as3 hL1 ra1 w1 r0 hI hr1 hcond hcond2 h₁ tk₁ o4 o3 o2 o1 dc4 dc3 dc2 dc1 X0 X' T' K' F' ca N' l0
  clear hs1 hs2 hs3 hs4 hs5 ra1 w1 r0 hr1 hcond2 X0 hcd hD ca codeHd hT8 X V T B TE TW hL1 as1 as2 as3 hT9 Y
  replace dc4 : o4.data = .cell none := dc4
  replace dc3 : o3.data = .cell none := dc3
  replace dc2 : o2.data = .cell none := dc2
  replace dc1 : o1.data = .cell none := dc1
  replace F' : Fr (ghostOf s₁.heap [(158, 154), (165, 161)]) s₁.heap.objs.size h₁ (fun y => if y = Str.ofString "script" then some (.ref q) else none) := F'
  have hlen : nsI.length ≤ 63 := by omega
  clear hcond
  generalize ghostOf s₁.heap [(158, 154), (165, 161)] = g at *
  generalize s₁.heap.objs.size = L at *
  have b1 := Nat.lt_succ_of_lt l0.1
  have b2 := Nat.lt_succ_of_lt b1
  have b3 := Nat.lt_succ_of_lt b2
  have b4 : Ap 154 (L + 1 + 1 + 1 + 1) := Nat.ne_of_lt (Nat.lt_succ_of_lt b3)
  replace b1 : Ap 154 (L + 1) := Nat.ne_of_lt b1
  replace b2 : Ap 154 (L + 1 + 1) := Nat.ne_of_lt b2
  replace b3 : Ap 154 (L + 1 + 1 + 1) := Nat.ne_of_lt b3
  have c1 := Nat.lt_succ_of_lt l0.2
  have c2 := Nat.lt_succ_of_lt c1
  have c3 := Nat.lt_succ_of_lt c2
  have c4 : Ap 161 (L + 1 + 1 + 1 + 1) := Nat.ne_of_lt (Nat.lt_succ_of_lt c3)
  replace c1 : Ap 161 (L + 1) := Nat.ne_of_lt c1
  replace c2 : Ap 161 (L + 1 + 1) := Nat.ne_of_lt c2
  replace c3 : Ap 161 (L + 1 + 1 + 1) := Nat.ne_of_lt c3
  have d12 : Ap (L + 1) (L + 1 + 1) := Nat.ne_of_lt (Nat.lt_succ_self _)
  have d23 : Ap (L + 1 + 1) (L + 1 + 1 + 1) := Nat.ne_of_lt (Nat.lt_succ_self _)
  have d34 : Ap (L + 1 + 1 + 1) (L + 1 + 1 + 1 + 1) := Nat.ne_of_lt (Nat.lt_succ_self _)
  have d13 : Ap (L + 1) (L + 1 + 1 + 1) := Nat.ne_of_lt (Nat.lt_succ_of_lt (Nat.lt_succ_self _))
  have d24 : Ap (L + 1 + 1) (L + 1 + 1 + 1 + 1) := Nat.ne_of_lt (Nat.lt_succ_of_lt (Nat.lt_succ_self _))
  have d14 : Ap (L + 1) (L + 1 + 1 + 1 + 1) := Nat.ne_of_lt (Nat.lt_succ_of_lt (Nat.lt_succ_of_lt (Nat.lt_succ_self _)))
  show wpAny (model PySem.Challenge.pw_tc0044_01 w) (ktrTop _ _ _ _ _ _ _ _ _ _) _ _ _ _
  skip
  repeat (first | with_reducible ((with_reducible show wpAny _ _ (eval (PySem.Expr.ListComp _ _ _ _) _) _ _ _); (k_here; k_dflt (refine gcomp (by k_asm) (by with_unfolding_all rfl) (by decide) (by rfl) (by decide) ?_); (try dsimp only))) | walk1)
  try dsimp only
  rename_i D1 ws1 hh1 FF1 NN1 hI1 hC1 hLn1 l1
  have hc14 : (nsI.take 14).length ≤ 14 := List.length_take_le _ _
  have hws1 : ws1.length ≤ 14 := by rw [hI1.length]; exact hc14
  k_dflt (refine' src_list ?gF ?gN ?gh ?gl ?gS ?gk ?ga ?gkeep ?gOut ?gel ?gfin)
  case gF => k_asm
  case gN => k_asm
  case gh => rfl
  case gl => k_mem
  case gS => rw [sizeLine_eq]; omega
  case gk => rfl
  case ga => rfl
  case gkeep => exact fun _ => true
  case gOut => exact AnyInt
  case gel =>
    refine Elts.toC ?_
    rintro C i s' m₂ E' ⟨h₂, tk₂, rfl⟩ ⟨v, hv, hc⟩ Fc Nc
    dsimp only at Fc Nc ⊢
    obtain ⟨k, t, rfl, hk⟩ := intsAre_at hI1 hv
    refine ⟨wpAny_pure ⟨rfl, keeps_refl _⟩, fun _ => ?_⟩
    repeat (first | with_reducible ((k_here; (with_reducible show wpAny _ _ (eval _ (compEnvC _ _ _ _)) _ _ _); k_dflt (first | (refine' ldVarK Fc.ns ?cv ?_; (case cv => assumption); k_whole) | (refine' ldCellK ?cv ⟨_, (Nc.get ?cm), ?cd⟩ ?_; (case cv => rfl); (case cm => k_mem); (case cd => assumption); k_whole)))) | walk1)
    refine EltEnd.mk ?_ (keeps_toks _ _)
    exact ⟨_, _, rfl⟩
  case gfin =>
    intro h'' D2 h₃ tk₃ ys F₃ N₃ hD2 hO hl
    obtain ⟨cl, rfl, hcl⟩ := paired_anyInts hO
    clear hO
    rw [lst_eq] at N₃
    k_lt hD2; repeat (have hN : Ap _ _ := Nat.ne_of_lt (And.left hD2); replace hD2 := And.right hD2)
    replace hD2 : Ap _ _ := Nat.ne_of_lt hD2
    dsimp only
    replace N₃ := news_drop2 N₃
    have hcl' : cl.length ≤ 14 := by
      rw [intValues_length] at hl
      omega
    clear hI1 hC1 hLn1 l1 hws1 FF1 NN1 hcl hl hc14
    repeat ((first | with_reducible ((with_reducible show wpAny _ _ (call (Value.type "enumerate") _) _ _ _); (k_here; k_dflt (refine' src_enum_list ?gF ?gN ?gh ?gl ?gS ?gk ?ga ?gb ?gab ?gkeep ?gOut ?gel ?gfin))) | with_reducible ((with_reducible show wpAny _ _ (exec (PySem.Stmt.Assign [_] (PySem.Expr.ListComp _ _ _ _) _) _) _ _ _); (k_here; k_dflt (refine gcomp_assign (by k_asm) rfl (by with_unfolding_all rfl) (by with_unfolding_all rfl) (by decide) (by rfl) (by decide) (by rfl) (by rfl) ?_); (try dsimp only))) | walk1); try dsimp only)
    case gF => k_asm
    case gN => k_asm
    case gh => rfl
    case gl => k_mem
    case gS => exact Nat.le_trans (show (7 : Nat) ≤ 7 from Nat.le_refl _) (by rw [sizeLine_eq]; decide)
    case gk => rfl
    case ga => rfl
    case gb => rfl
    case gab => decide
    case gkeep => exact fun _ => true
    case gOut => exact AnyInt
    case gel =>
      refine Elts2.toC ?_
      rintro C i s' m₂ E' ext ⟨h₂, tk₂, rfl⟩ ⟨v, t1, hv, h1, h2⟩ Fc Nc
      dsimp only at Fc Nc ⊢
      simp only [List.cons_append, List.nil_append] at Nc
      obtain ⟨k, t, rfl, hk⟩ := intsAre_at (.cons 1 _ (.cons 2 _ (.cons 1 _ (.cons 2 _ (.cons 2 _ (.cons 0 _ (.cons 3 _ .nil))))))) hv
      clear hk hv
      refine ⟨wpAny_pure ⟨rfl, h₂, tk₂, rfl, Fc, Nc⟩, fun _ => ?_⟩
      repeat (first | with_reducible ((k_here; (with_reducible show wpAny _ _ (subscriptTail _ (PySem.Expr.Slice _ _ (some _) _) (Value.ref _) (Value.ref _)) _ _ _); k_dflt (refine' slice_step ?xF ?xN ?xl ?xp ?xq ?xk ?xo ?_ ?xs ?xt ?xz; (case xF => k_asm); (case xN => k_asm); (case xl => k_mem); (case xp => kmk_part); (case xq => kmk_part); (case xk => kmk_part); (case xo => decide); (case xs => with_unfolding_all rfl); (case xt => kmk_pure); (case xz => omega)); intro D' h' ll' F' N' l1; (have hIx := intsAre_vals ll'); (try k_sweep))) | with_reducible ((k_here; (with_reducible show wpAny _ _ (eval _ (compEnvC _ _ _ _)) _ _ _); k_dflt (first | (refine' ldVarK Fc.ns ?cv ?_; (case cv => assumption); k_whole) | (refine' ldCellK ?cv ⟨_, (Nc.get ?cm), ?cd⟩ ?_; (case cv => rfl); (case cm => k_mem); (case cd => assumption); k_whole)))) | walk1)
      (with_reducible rename Fr g C _ m₂ => F₈)
      (with_reducible rename News g C _ _ => N₈)
      exact ⟨⟨_, _, rfl⟩, _, _, rfl, F₈, fun p hp => N₈ p (.tail _ hp)⟩
    case gfin =>
      intro h'' D3 h₄ tk₄ ys F₄ N₄ hD3 hO hl3
      rename_i h5 o5 dc5 l5 h6 F5 N5 l6
      obtain ⟨nl, rfl, hnl⟩ := paired_anyInts hO
      clear hO
      rw [lst_eq] at N₄
      k_lt hD3; repeat (have hN : Ap _ _ := Nat.ne_of_lt (And.left hD3); replace hD3 := And.right hD3)
      replace hD3 : Ap _ _ := Nat.ne_of_lt hD3
      dsimp only
      replace N₄ := news_drop2 N₄
      have hnl7 : nl.length = 7 := by rw [hnl]; rfl
      clear hnl hl3
      replace F₄ : Fr g L h₄ (fun z => if z = Str.ofString "numbers" then some (Value.ref D3) else if z = Str.ofString "script" then some (Value.ref q) else none) := F₄
      replace N₄ : News g L h₄ [(D3, W.listOf (intValues nl).toArray (intValues nl).length), (L + 1 + 1 + 1 + 1, o4), (L + 1 + 1 + 1, o3), (L + 1 + 1, o2), (154, tabObj #[]), (161, tabObj #[])] := news_sub N₄ (by simp)
      clear l6 N5 F5 dc5 hI lifted hD2 hcl'
      have hIn := intsAre_vals nl
      repeat (first | with_reducible ((with_reducible show wpAny _ _ (exec (PySem.Stmt.For (PySem.Expr.Tuple _ _ _) _ _ _ _) _) _ _ _); (k_here; k_dflt (refine For_enumL (h₀ := g) rfl rfl rfl rfl ?_); (try dsimp only))) | walk1)
      rename_i lw hw1 lw1 hw2 D4 ws4 hw3 F₅ N₅ hI5 hC5 hL5 l5
      repeat (have hN : Ap _ _ := Nat.ne_of_lt (And.left lw1); replace lw1 := And.right lw1)
      replace lw1 : Ap _ _ := Nat.ne_of_lt lw1
      have hD6 : ws4.length = 6 := by rw [hI5.length, hC5, List.length_map, hnl7]; rfl
      try dsimp only
      k_dflt (refine enum_led (by k_asm) (by k_asm) (.head _) ?_)
      intro e it oi h₈ hoi F₈ N₈ i₃ i₄
      have e0 := i₃ _ (.head _)
      have e1 : Ap lw e := Nat.ne_of_lt (Nat.lt_trans (i₃ _ (.tail _ (.head _))) i₄)
      have e2 : Ap lw D4 := Nat.ne_of_lt l5.1
      have i₅ := i₃
      k_lt i₅; repeat (have hN : Ap _ _ := Nat.ne_of_lt (And.left i₅); replace i₅ := And.right i₅)
      replace i₅ : Ap _ _ := Nat.ne_of_lt i₅
      refine ⟨e, it, D4, oi, ws4, 0, _, _, rfl, WordsJ lw D3 s₁.gens [(D3, W.listOf (intValues nl).toArray (intValues nl).length), (L + 1 + 1 + 1 + 1, o4), (L + 1 + 1 + 1, o3), (L + 1 + 1, o2), (154, tabObj #[]), (161, tabObj #[])] ((nl.map Prod.fst).take 6), hoi, F₈, N₈, Nat.ne_of_gt i₄, Nat.ne_of_lt (Nat.lt_trans e0 i₄), Nat.ne_of_lt e0, ?hoffs, ?zero, ?step, ?fin⟩
      case hoffs =>
        exact fun p hp => ⟨Nat.ne_of_lt (Nat.lt_trans (i₃ p (.tail _ hp)) i₄), Nat.ne_of_lt (i₃ p (.tail _ hp)), Nat.ne_of_lt (lt7 l5 p hp)⟩
      case zero => exact ⟨rfl, rfl, rfl, [], 0, rfl, rfl⟩
      case step =>
        rintro i v m₁ news₁ g₁ h₁₁ tk₁₁ tk₁₂ oi' hv hoi' ⟨rfl, mw, mn, wl, nn, rfl, hwl⟩ hoff₁ F₁₁ N₁₁
        obtain ⟨k, t, rfl, hk⟩ := intsAre_at hI5 hv
        have hi6 : i < 6 := by
          have := (List.getElem?_eq_some_iff.mp hv).1
          omega
        clear hv N₅ F₅ N₈ F₈
        replace F₁₁ : Fr g L h₁₁ _ := F₁₁
        replace N₁₁ : News g L h₁₁ _ := N₁₁
        replace N₁₁ := news_front3 N₁₁
        have hoff9 : ∀ p ∈ [(e, enumO it (↑i + 1) (Value.int k t)), (it, oi'), (D4, W.listOf ws4.toArray 0), (D3, W.listOf (intValues nl).toArray (intValues nl).length), (L + 1 + 1 + 1 + 1, o4), (L + 1 + 1 + 1, o3), (L + 1 + 1, o2), (154, tabObj #[]), (161, tabObj #[])], @Ne Nat p.1 lw := by
          iterate 9 (refine List.forall_mem_cons.mpr (And.intro (by k_ne) ?_))
          exact List.forall_mem_nil _
        repeat (first | with_reducible ((k_here; (with_reducible show wpAny _ _ (eval _ (envOfC _ _ _ _ _)) _ _ _); k_dflt (refine' nameX_L ?yF ?yv ?_ ?ya ?yb; (case yF => k_asm); (case ya => rfl); (case yb => rfl); (case yv => assumption); k_whole))) | walk1)
        dsimp only
        rename_i kE x1 x2 kZ kN x3 x4 kC kxE
        have kM := cat_le kC kE (mul_le kN (fmod_lo _ (by decide)) (fmod_hi _ (by decide)))
        clear kE kZ kN kC
        k_dflt (refine KXi.mul (n := 1) kxE (by decide) (Int.le_trans (by decide) (fmod_lo _ (by decide))) (Int.le_of_lt (Int.lt_of_lt_of_le (fmod_hi _ (by decide)) (by decide))) ?_)
        intro _ _ kxiZ2 kxiN2
        have kM2 := mul_le kxiN2 (fmod_lo _ (by decide)) (fmod_hi _ (by decide))
        clear kxiZ2 kxiN2
        repeat walk1
        (with_reducible rename Fr g L _ _ => F₁₂)
        (with_reducible rename News g L _ _ => N₁₂)
        refine strs_append F₁₂ N₁₂ hoff9 (by have := congrArg List.length hwl; rw [List.length_map, wordsTo_length] at this; omega) ?_
        intro h₁₃ F₁₃ N₁₃
        refine wpAny_execs_nil ?_
        exact words_end F₁₃ N₁₃ hoff₁ mw mn hk hwl
      case fin =>
        rintro m₁ news₁ g₁ h₁₁ tk₁₁ ⟨rfl, mw, mn, wl, nn, rfl, hwl⟩ F₁₁ N₁₁
        clear N₅ F₅ N₈ F₈
        replace F₁₁ : Fr g L h₁₁ _ := F₁₁
        replace N₁₁ : News g L h₁₁ _ := N₁₁
        dsimp only
        clear hI5 hC5 hL5 l5 e0 e1 i₃ i₄ hoi
        have hwl6 : wl.map Prod.fst = wordsTo ((nl.map Prod.fst).take 6) 6 := by rw [hwl, hD6]
        clear hwl hD6
        repeat (first | with_reducible ((k_here; (with_reducible show wpAny _ _ (eval _ (envOfC _ _ _ _ _)) _ _ _); k_dflt (refine' nameX_L ?yF ?yv ?_ ?ya ?yb; (case yF => k_asm); (case ya => rfl); (case yb => rfl); (case yv => assumption); k_whole))) | walk1)
        refine law_elim (ks := (nl.map Prod.fst).take 6) (n := (nl.map Prod.fst).getD (Int.toNat 6) 0) (by rw [List.length_take, List.length_map, hnl7]; rfl) ?_
        intro line left fo1 fo2 one two PF
        k_dflt (refine' SC.join (News.isList (by k_asm) (by k_mem)) hwl6 ?hj ?_; (case hj => exact PF.jok); intro t' k')
        rw [show Txt.join (Str.ofString " ") (wordsTo ((nl.map Prod.fst).take 6) 6) = line from PF.hline.symm]
        dsimp only
        repeat ((first | with_reducible ((with_reducible show wpAny _ _ (call (Value.ref _) _) _ _ _); (k_here; k_dflt (first | refine' hidden_call ?cB ?cF ?cX ?cT ?ck ?cd1 ?cN ?ca ?cs ?chid | refine' ends_call ?cB ?cF ?cX ?cT ?ck ?cd1 ?cN ?ca ?cs ?cends | refine' lev_f ?cv ?cB ?cF ?cX ?cT ?ck ?cd1 ?cN ?ca ?cs ?cla ?clb ?clev | refine' strip_f ?cS ?cr ?cB ?cF ?cX ?cT ?ck ?cd1 ?cN ?cG ?cstrip); (case cB => k_asm); (case cF => k_asm); (case cX => k_asm); (case cT => k_asm); (case ck => rfl); (case cd1 => ktr_room); (try (case cN => k_asm)))) | with_reducible ((k_here; (with_reducible show wpAny _ _ (eval _ (envOfC _ _ _ _ _)) _ _ _); k_dflt (refine' nameX_L ?yF ?yv ?_ ?ya ?yb; (case yF => k_asm); (case ya => rfl); (case yb => rfl); (case yv => assumption); k_whole))) | walk1); try dsimp only)
        case ca => exact PF.asc
        case cs => exact Nat.le_trans PF.len (by decide)
        case chid =>
          intro qh eh nh h₂₀ tk₂₀ F₂₀ N₂₀ hB lh
          clear lw1
          k_lt lh; repeat (have hN : Ap _ _ := Nat.ne_of_lt (And.left lh); replace lh := And.right lh)
          replace lh : Ap _ _ := Nat.ne_of_lt lh
          replace F₂₀ : Fr g L h₂₀ _ := F₂₀
          replace N₂₀ : News g L h₂₀ [(qh, W.listOf eh.toArray nh), (L + 1 + 1 + 1 + 1, o4), (L + 1 + 1 + 1, o3), (L + 1 + 1, o2), (154, tabObj #[]), (161, tabObj #[])] := fun p hp => N₂₀ p (by
            simp only [List.mem_cons, List.not_mem_nil, or_false] at hp ⊢
            rcases hp with h | h | h | h | h | h <;> simp [h])
          generalize 4 + ((List.map Prod.fst nl).getD (Int.toNat 6) 0).fmod 6 = wd at PF F₂₀ N₂₀ ⊢
          repeat ((first | with_reducible ((with_reducible show wpAny _ _ (eval (PySem.Expr.ListComp _ _ _ _) _) _ _ _); (k_here; k_dflt (refine gcomp (by k_asm) (by with_unfolding_all rfl) (by decide) (by rfl) (by decide) ?_); (try dsimp only))) | walk1); try dsimp only)
          k_dflt (refine' src_zip_SL ?gF ?gN ?gh ?ga ?gl ?glen ?gS ?gk ?gx ?gb ?gab ?gkeep ?gOut ?gel ?gfin)
          case gF => k_asm
          case gN => k_asm
          case gh => rfl
          case ga => exact PF.asc
          case gl => k_mem
          case glen => exact hB.length.trans PF.hidlen
          case gS => exact Nat.le_trans PF.len (by rw [sizeLine_eq]; decide)
          case gk => rfl
          case gx => rfl
          case gb => rfl
          case gab => decide
          case gkeep => exact fun i => !(hiddenOf line).getD i false
          case gOut => exact fun i v => ∃ t, v = .str ⟨#[line.cps.getD i 0]⟩ t
          case gel =>
            refine Elts.toC ?_
            rintro C i s' m₂ E' ⟨h₂, tk₂, rfl⟩ ⟨c, v, t2, hc, hv, h1, h2⟩ Fc Nc
            have hc' : line.cps.getD i 0 = c := by rw [Array.getD_eq_getD_getElem?, hc]; rfl
            have hi9 : i < (hiddenOf line).length := by rw [← hB.length]; exact (List.getElem?_eq_some_iff.mp hv).1
            have hv9 := kbo_at hB i hi9
            rw [hv] at hv9
            cases hv9
            refine ⟨wpAny_tests_one ?_, fun _ => ?_⟩
            · repeat (first | with_reducible ((k_here; (with_reducible show wpAny _ _ (eval _ (compEnvC _ _ _ _)) _ _ _); k_dflt (first | (refine' ldVarK Fc.ns ?cv ?_; (case cv => assumption); k_whole) | (refine' ldCellK ?cv ⟨_, (Nc.get ?cm), ?cd⟩ ?_; (case cv => rfl); (case cm => k_mem); (case cd => assumption); k_whole)))) | walk1)
              exact EltEnd.mk rfl (keeps_toks _ _)
            · repeat (first | with_reducible ((k_here; (with_reducible show wpAny _ _ (eval _ (compEnvC _ _ _ _)) _ _ _); k_dflt (first | (refine' ldVarK Fc.ns ?cv ?_; (case cv => assumption); k_whole) | (refine' ldCellK ?cv ⟨_, (Nc.get ?cm), ?cd⟩ ?_; (case cv => rfl); (case cm => k_mem); (case cd => assumption); k_whole)))) | walk1)
              exact EltEnd.mk ⟨_, by rw [hc']⟩ (keeps_toks _ _)
          case gfin =>
            intro h'' Dl h₂₁ tk₂₁ ys F₂₁ N₂₁ hDl hO hl
            obtain ⟨l2, rfl, hl2⟩ := paired_strs hO
            rw [lst_eq] at N₂₁
            k_lt hDl; repeat (have hN : Ap _ _ := Nat.ne_of_lt (And.left hDl); replace hDl := And.right hDl)
            replace hDl : Ap _ _ := Nat.ne_of_lt hDl
            clear hO hl
            have hl2' : l2.map Prod.fst = leftParts line := hl2
            clear hl2
            repeat walk1
            k_dflt (refine' SC.join (News.isList (by k_asm) (by k_mem)) hl2' ?hj ?_; (case hj => exact PF.jokL); intro t2' k2')
            rw [show Txt.join (Str.ofString "") (leftParts line) = left from PF.hleft.symm]
            dsimp only
            repeat ((first | with_reducible ((with_reducible show wpAny _ _ (call (Value.ref _) _) _ _ _); (k_here; k_dflt (first | refine' hidden_call ?cB ?cF ?cX ?cT ?ck ?cd1 ?cN ?ca ?cs ?chid | refine' ends_call ?cB ?cF ?cX ?cT ?ck ?cd1 ?cN ?ca ?cs ?cends | refine' lev_f ?cv ?cB ?cF ?cX ?cT ?ck ?cd1 ?cN ?ca ?cs ?cla ?clb ?clev | refine' strip_f ?cS ?cr ?cB ?cF ?cX ?cT ?ck ?cd1 ?cN ?cG ?cstrip); (case cB => k_asm); (case cF => k_asm); (case cX => k_asm); (case cT => k_asm); (case ck => rfl); (case cd1 => ktr_room); (try (case cN => k_asm)))) | with_reducible ((with_reducible show wpAny _ _ (eval (PySem.Expr.ListComp _ _ _ _) _) _ _ _); (k_here; k_dflt (refine gcomp (by k_asm) (by with_unfolding_all rfl) (by decide) (by rfl) (by decide) ?_); (try dsimp only))) | walk1); try dsimp only)
            case ca => exact PF.asc
            case cs => exact Nat.le_trans PF.len (by decide)
            case cends =>
              intro qe ee ne h₂₂ tk₂₂ F₂₂ N₂₂ hE le
              k_lt le; repeat (have hN : Ap _ _ := Nat.ne_of_lt (And.left le); replace le := And.right le)
              replace le : Ap _ _ := Nat.ne_of_lt le
              replace F₂₂ : Fr g L h₂₂ _ := F₂₂
              clear hl2'
              have hEl : ee.length ≤ 30 := by rw [hE.length]; exact PF.endsLen
              k_dflt (refine' src_list ?gF ?gN ?gh ?gl ?gS ?gk ?ga ?gkeep ?gOut ?gel ?gfin)
              case gF => k_asm
              case gN => k_asm
              case gh => rfl
              case gl => k_mem
              case gS => exact Nat.le_trans hEl (by rw [sizeLine_eq]; decide)
              case gk => rfl
              case ga => rfl
              case gkeep => exact fun i => !hidAt line ((endsOf line wd).getD i 0)
              case gOut => exact fun i v => ∃ t, v = .int ((fun s => s - ((((hiddenOf line).take s.toNat).filter id).length : Int)) ((endsOf line wd).getD i 0)) t
              case gel =>
                refine Elts2.toC ?_
                rintro C i s' m₂ E' ext ⟨h₂, tk₂, rfl⟩ ⟨v, hv, h1⟩ Fc Nc
                dsimp only at Fc Nc ⊢
                simp only [List.cons_append, List.nil_append] at Nc
                obtain ⟨k, t, rfl, hk⟩ := intsAre_at hE hv
                have hk' : (endsOf line wd).getD i 0 = k := by rw [List.getD_eq_getElem?_getD, hk]; rfl
                have hin := PF.endsIn k (List.mem_of_getElem? hk)
                have hk0 : 0 ≤ k := hin.1
                have hk1 : k < (hiddenOf line).length := by rw [PF.hidlen]; exact hin.2
                have hk2 : (hiddenOf line).length ≤ 30 := by rw [PF.hidlen]; exact PF.len
                clear hin hk hv
                refine ⟨wpAny_tests_one ?_, fun _ => ?_⟩
                · repeat (first | with_reducible ((k_here; (with_reducible show wpAny _ _ (eval _ (compEnvC _ _ _ _)) _ _ _); k_dflt (first | (refine' ldVarK Fc.ns ?cv ?_; (case cv => assumption); k_whole) | (refine' ldCellK ?cv ⟨_, (Nc.get ?cm), ?cd⟩ ?_; (case cv => rfl); (case cm => k_mem); (case cd => assumption); k_whole)))) | walk1)
                  exact ⟨by rw [hk']; rfl, _, _, rfl, Fc, Nc⟩
                · repeat (first | with_reducible ((with_reducible show wpAny _ _ (call (Value.builtin "list.count") _) _ _ _); (k_here; k_dflt (refine' count_bools ?wN ?wl ?wb ?_; (case wN => k_asm); (case wl => k_mem); (case wb => assumption); k_whole))) | with_reducible ((k_here; (with_reducible show wpAny _ _ (subscriptTail _ (PySem.Expr.Slice none (some _) none _) (Value.ref _) (Value.ref _)) _ _ _); k_dflt (refine' slice_bools ?xF ?xN ?xl ?xb ?xp ?xq ?x0 ?_ ?xs ?xt ?xz; (case xF => k_asm); (case xN => k_asm); (case xl => k_mem); (case xb => assumption); (case xp => kmk_part); (case xq => kmk_part); (case x0 => assumption); (case xs => with_unfolding_all rfl); (case xt => kmk_pure); (case xz => omega)); intro D' h' ws' F' N' l1 hW'; (try k_lt l1); (repeat (have hN : Ap _ _ := Nat.ne_of_lt (And.left l1); replace l1 := And.right l1)); (try (replace l1 : Ap _ _ := Nat.ne_of_lt l1)); (try k_sweep))) | with_reducible ((k_here; (with_reducible show wpAny _ _ (eval _ (compEnvC _ _ _ _)) _ _ _); k_dflt (first | (refine' ldVarK Fc.ns ?cv ?_; (case cv => assumption); k_whole) | (refine' ldCellK ?cv ⟨_, (Nc.get ?cm), ?cd⟩ ?_; (case cv => rfl); (case cm => k_mem); (case cd => assumption); k_whole)))) | walk1)
                  (with_reducible rename Fr g C _ m₂ => F₈)
                  (with_reducible rename News g C _ _ => N₈)
                  exact ⟨⟨_, by rw [hk']⟩, _, _, rfl, F₈, fun p hp => N₈ p (.tail _ hp)⟩
              case gfin =>
                intro h'' Do h₂₃ tk₂₃ ys F₂₃ N₂₃ hDo hO hl
                have hI1 : IntsAre ys one := by
                  have h3 := paired_intsAre hO
                  rw [PF.hone]
                  unfold oneOf
                  rw [← range_sel (endsOf line wd) 0 (fun s => !hidAt line s) (fun s => s - ((((hiddenOf line).take s.toNat).filter id).length : Int)), ← hE.length]
                  exact h3
                obtain ⟨ol, rfl, hol⟩ := vals_intsAre hI1
                rw [lst_eq] at N₂₃
                k_lt hDo; repeat (have hN : Ap _ _ := Nat.ne_of_lt (And.left hDo); replace hDo := And.right hDo)
                replace hDo : Ap _ _ := Nat.ne_of_lt hDo
                clear hO hl
                repeat ((first | with_reducible ((with_reducible show wpAny _ _ (call (Value.ref _) _) _ _ _); (k_here; k_dflt (first | refine' hidden_call ?cB ?cF ?cX ?cT ?ck ?cd1 ?cN ?ca ?cs ?chid | refine' ends_call ?cB ?cF ?cX ?cT ?ck ?cd1 ?cN ?ca ?cs ?cends | refine' lev_f ?cv ?cB ?cF ?cX ?cT ?ck ?cd1 ?cN ?ca ?cs ?cla ?clb ?clev | refine' strip_f ?cS ?cr ?cB ?cF ?cX ?cT ?ck ?cd1 ?cN ?cG ?cstrip); (case cB => k_asm); (case cF => k_asm); (case cX => k_asm); (case cT => k_asm); (case ck => rfl); (case cd1 => ktr_room); (try (case cN => k_asm)))) | walk1); try dsimp only)
                case ca => exact PF.ascL
                case cs => exact Nat.le_trans PF.lenL (by decide)
                case cends =>
                  intro q2 e2 n2 h₂₄ tk₂₄ F₂₄ N₂₄ hE2 le2
                  k_lt le2; repeat (have hN : Ap _ _ := Nat.ne_of_lt (And.left le2); replace le2 := And.right le2)
                  replace le2 : Ap _ _ := Nat.ne_of_lt le2
                  replace F₂₄ : Fr g L h₂₄ _ := F₂₄
                  rw [← PF.htwo] at hE2
                  obtain ⟨tl, rfl, htl⟩ := vals_intsAre hE2
                  skip
                  repeat ((first | with_reducible ((with_reducible show wpAny _ _ (call (Value.ref _) _) _ _ _); (k_here; k_dflt (first | refine' hold_217 ?_ | refine' hold_234 ?_))) | walk1); try dsimp only)
                  (with_reducible rename Fr g L _ _ => F₂₅)
                  (with_reducible rename News g L _ _ => N₂₅)
                  obtain ⟨c4, hc4, mc4⟩ := cell_of (a := L + 1 + 1 + 1 + 1) (v := .ref q2) N₂₅ (by assumption) (by k_mem)
                  obtain ⟨c3, hc3, mc3⟩ := cell_of (a := L + 1 + 1 + 1) (v := .ref Do) N₂₅ (by assumption) (by k_mem)
                  have N₂₆ : News g L _ [(154, tabObj #[]), (161, tabObj #[]), (q2, W.listOf (intValues tl).toArray n2), (Do, W.listOf (intValues ol).toArray (intValues ol).length), (L + 1 + 1 + 1 + 1, c4), (L + 1 + 1 + 1, c3)] := news_sub N₂₅ (by
                    refine List.forall_mem_cons.mpr (And.intro ?_ (List.forall_mem_cons.mpr (And.intro ?_ (List.forall_mem_cons.mpr (And.intro ?_ (List.forall_mem_cons.mpr (And.intro ?_ (List.forall_mem_cons.mpr (And.intro mc4 (List.forall_mem_cons.mpr (And.intro mc3 (fun _ h => nomatch h))))))))))))
                    all_goals (repeat (first | exact List.Mem.head _ | refine List.Mem.tail _ ?_)))
                  unfold Hold
                  clear N₂₅ mc4 mc3
                  have off154 : ∀ p ∈ [(q2, W.listOf (intValues tl).toArray n2), (Do, W.listOf (intValues ol).toArray (intValues ol).length), (L + 1 + 1 + 1 + 1, c4), (L + 1 + 1 + 1, c3)], @Ne Nat p.1 154 := by
                    iterate 4 (refine List.forall_mem_cons.mpr (And.intro (by k_ne) ?_))
                    exact List.forall_mem_nil _
                  have off161 : ∀ p ∈ [(q2, W.listOf (intValues tl).toArray n2), (Do, W.listOf (intValues ol).toArray (intValues ol).length), (L + 1 + 1 + 1 + 1, c4), (L + 1 + 1 + 1, c3)], @Ne Nat p.1 161 := by
                    iterate 4 (refine List.forall_mem_cons.mpr (And.intro (by k_ne) ?_))
                    exact List.forall_mem_nil _
                  k_dflt (refine' folded_f PF.fold1 K' F₂₅ X' T' rfl (by ktr_room) ?fu (AllBare.of_eq hg) off154 off161 N₂₆ trivial trivial ?fret)
                  case fu => ktr_units
                  case fret =>
                    intro t3 ps3 ps23 h₂₇ g₂₇ tk₂₇ F₂₇ N₂₇ Ta₂₇ Tb₂₇ G₂₇
                    clear N₂₆ F₂₅
                    dsimp only
                    repeat ((first | with_reducible ((with_reducible show wpAny _ _ (call (Value.ref _) _) _ _ _); (k_here; k_dflt (first | refine' hidden_call ?cB ?cF ?cX ?cT ?ck ?cd1 ?cN ?ca ?cs ?chid | refine' ends_call ?cB ?cF ?cX ?cT ?ck ?cd1 ?cN ?ca ?cs ?cends | refine' lev_f ?cv ?cB ?cF ?cX ?cT ?ck ?cd1 ?cN ?ca ?cs ?cla ?clb ?clev | refine' strip_f ?cS ?cr ?cB ?cF ?cX ?cT ?ck ?cd1 ?cN ?cG ?cstrip); (case cB => k_asm); (case cF => k_asm); (case cX => k_asm); (case cT => k_asm); (case ck => rfl); (case cd1 => ktr_room); (try (case cN => k_asm)))) | walk1); try dsimp only)
                    case cS => exact PF.strip1
                    case cr => exact PF.eq1
                    case cG => exact G₂₇
                    case cstrip =>
                      intro t5 h₂₉ g₂₉ tk₂₉ F₂₉ N₂₉ G₂₉
                      replace F₂₉ : Fr g L h₂₉ _ := F₂₉
                      replace N₂₉ : News g L h₂₉ _ := N₂₉
                      try clear N₂₇ F₂₇
                      dsimp only
                      repeat ((first | with_reducible ((with_reducible show wpAny _ _ (call (Value.ref _) _) _ _ _); (k_here; k_dflt (first | refine' hidden_call ?cB ?cF ?cX ?cT ?ck ?cd1 ?cN ?ca ?cs ?chid | refine' ends_call ?cB ?cF ?cX ?cT ?ck ?cd1 ?cN ?ca ?cs ?cends | refine' lev_f ?cv ?cB ?cF ?cX ?cT ?ck ?cd1 ?cN ?ca ?cs ?cla ?clb ?clev | refine' strip_f ?cS ?cr ?cB ?cF ?cX ?cT ?ck ?cd1 ?cN ?cG ?cstrip); (case cB => k_asm); (case cF => k_asm); (case cX => k_asm); (case cT => k_asm); (case ck => rfl); (case cd1 => ktr_room); (try (case cN => k_asm)))) | walk1); try dsimp only)
                      case cS => exact PF.strip2
                      case cr => exact PF.hstrip
                      case cG => exact G₂₉
                      case cstrip =>
                        intro t6 h₃₁ g₃₁ tk₃₁ F₃₁ N₃₁ G₃₁
                        replace F₃₁ : Fr g L h₃₁ _ := F₃₁
                        replace N₃₁ : News g L h₃₁ _ := N₃₁
                        try clear N₂₉ F₂₉
                        dsimp only
                        repeat ((first | with_reducible ((with_reducible show wpAny _ _ (call (Value.ref _) _) _ _ _); (k_here; k_dflt (first | refine' hold_217 ?_ | refine' hold_234 ?_))) | walk1); try dsimp only)
                        unfold Hold
                        have ff2 : FoldFacts left wd (toldOf left two) := PF.eq2 ▸ PF.fold2
                        k_dflt (refine' folded_f ff2 K' F₃₁ X' T' rfl (by ktr_room) ?fu G₃₁ off154 off161 N₃₁ Ta₂₇ Tb₂₇ ?fret)
                        case fu => ktr_units
                        case fret =>
                          intro t7 ps4 ps24 h₃₃ g₃₃ tk₃₃ F₃₃ N₃₃ Ta₃₃ Tb₃₃ G₃₃
                          try clear N₃₁ F₃₁
                          dsimp only
                          repeat ((first | with_reducible ((with_reducible show wpAny _ _ (call (Value.ref _) _) _ _ _); (k_here; k_dflt (first | refine' hold_217 ?_ | refine' hold_234 ?_))) | walk1); try dsimp only)
                          unfold Hold
                          k_dflt (refine' told_f (ll := ol) (r := toldOf left one) ?cr K' ?cF X' T' rfl (by ktr_room) ?cN ?cm PF.ascL PF.lenL ?ctold)
                          case cr => rw [hol]
                          case cF => k_asm
                          case cN => k_asm
                          case cm => k_mem
                          case ctold =>
                            intro t8 h₃₅ tk₃₅ F₃₅ N₃₅
                            try clear N₃₃ F₃₃
                            dsimp only
                            repeat (walk1; try dsimp only)
                            · rename_i hne
                              exact absurd hne (by simp)
                            · repeat ((first | with_reducible ((with_reducible show wpAny _ _ (call (Value.ref _) _) _ _ _); (k_here; k_dflt (first | refine' hold_217 ?_ | refine' hold_234 ?_))) | walk1); try dsimp only)
                              unfold Hold
                              k_dflt (refine' told_f (ll := tl) (r := toldOf left two) ?cr K' ?cF X' T' rfl (by ktr_room) ?cN ?cm PF.ascL PF.lenL ?ctold)
                              case cr => rw [htl]
                              case cF => k_asm
                              case cN => k_asm
                              case cm => k_mem
                              case ctold =>
                                intro t9 h₃₇ tk₃₇ F₃₇ N₃₇
                                try clear N₃₅ F₃₅
                                dsimp only
                                repeat (walk1; try dsimp only)
                                · rename_i hne
                                  exact absurd hne (by simp)
                                · have hol30 : (intValues ol).length ≤ 30 := by
                                    rw [hI1.length, PF.hone]
                                    unfold oneOf
                                    rw [List.length_map]
                                    exact Nat.le_trans (List.length_filter_le _ _) PF.endsLen
                                  have htl30 : (intValues tl).length ≤ 30 := by rw [hE2.length]; exact PF.twoLen
                                  repeat ((first | with_reducible ((with_reducible show wpAny _ _ (eval (PySem.Expr.ListComp _ _ _ _) _) _ _ _); (k_here; k_dflt (refine gcomp (by k_asm) (by with_unfolding_all rfl) (by decide) (by rfl) (by decide) ?_); (try dsimp only))) | walk1); try dsimp only)
                                  k_dflt (refine' src_list ?gF ?gN ?gh ?gl ?gS ?gk ?ga ?gkeep ?gOut ?gel ?gfin)
                                  case gF => k_asm
                                  case gN => k_asm
                                  case gh => rfl
                                  case gl => k_mem
                                  case gS => exact Nat.le_trans hol30 (by rw [sizeLine_eq]; decide)
                                  case gk => rfl
                                  case ga => rfl
                                  case gkeep => exact fun i => !decide (one.getD i 0 ∈ two)
                                  case gOut => exact fun i v => ∃ t, v = .int ((fun s => s) (one.getD i 0)) t
                                  case gel =>
                                    refine Elts.toC ?_
                                    rintro C i s' m₂ E' ⟨h₂, tk₂, rfl⟩ ⟨v, hv, h1⟩ Fc Nc
                                    dsimp only at Fc Nc ⊢
                                    obtain ⟨k, t, rfl, hk⟩ := intsAre_at hI1 hv
                                    have hk' : one.getD i 0 = k := by rw [List.getD_eq_getElem?_getD, hk]; rfl
                                    refine ⟨wpAny_tests_one ?_, fun _ => ?_⟩
                                    · repeat (first | with_reducible ((with_reducible show wpAny _ _ (compareOp _ (Value.int _ _) (Value.ref _)) _ _ _); (k_here; k_dflt (refine' notin_led ?nN ?nl ?_; (case nN => k_asm); (case nl => k_mem); k_whole))) | with_reducible ((k_here; (with_reducible show wpAny _ _ (eval _ (compEnvC _ _ _ _)) _ _ _); k_dflt (first | (refine' ldVarK Fc.ns ?cv ?_; (case cv => assumption); k_whole) | (refine' ldCellK ?cv ⟨_, (Nc.get ?cm), ?cd⟩ ?_; (case cv => rfl); (case cm => k_mem); (case cd => assumption); k_whole)))) | walk1)
                                      exact EltEnd.mk (by rw [hk', htl]) (keeps_toks _ _)
                                    · repeat (first | with_reducible ((k_here; (with_reducible show wpAny _ _ (eval _ (compEnvC _ _ _ _)) _ _ _); k_dflt (first | (refine' ldVarK Fc.ns ?cv ?_; (case cv => assumption); k_whole) | (refine' ldCellK ?cv ⟨_, (Nc.get ?cm), ?cd⟩ ?_; (case cv => rfl); (case cm => k_mem); (case cd => assumption); k_whole)))) | walk1)
                                      exact EltEnd.mk ⟨_, by rw [hk']⟩ (keeps_toks _ _)
                                  case gfin =>
                                    intro h'' Dx h₄₁ tk₄₁ ys1 F₄₁ N₄₁ hDx hO hl
                                    have hJ1 : IntsAre ys1 (one.filter fun s => !decide (s ∈ two)) := by
                                      have h3 := paired_intsAre hO
                                      have h4 := range_sel one 0 (fun s => !decide (s ∈ two)) (fun s => s)
                                      rw [List.map_id'] at h4
                                      rw [← h4, ← hI1.length]
                                      exact h3
                                    rw [lst_eq] at N₄₁
                                    k_lt hDx; repeat (have hN : Ap _ _ := Nat.ne_of_lt (And.left hDx); replace hDx := And.right hDx)
                                    replace hDx : Ap _ _ := Nat.ne_of_lt hDx
                                    clear hO hl
                                    have hlf1 : (one.filter fun s => !decide (s ∈ two)).length < 2 ^ 62 := by
                                      have := List.length_filter_le (fun s => !decide (s ∈ two)) one
                                      rw [hI1.length] at hol30
                                      omega
                                    dsimp only
                                    repeat ((first | with_reducible ((with_reducible show wpAny _ _ (call (Value.builtin "len") _) _ _ _); (k_here; k_dflt (refine' len_led ?lN ?lm ?li ?lf ?_; (case lN => k_asm); (case lm => k_mem); (case li => assumption); (case lf => assumption); k_whole))) | with_reducible ((with_reducible show wpAny _ _ (eval (PySem.Expr.ListComp _ _ _ _) _) _ _ _); (k_here; k_dflt (refine gcomp (by k_asm) (by with_unfolding_all rfl) (by decide) (by rfl) (by decide) ?_); (try dsimp only))) | walk1); try dsimp only)
                                    k_dflt (refine' src_list ?gF ?gN ?gh ?gl ?gS ?gk ?ga ?gkeep ?gOut ?gel ?gfin)
                                    case gF => k_asm
                                    case gN => k_asm
                                    case gh => rfl
                                    case gl => k_mem
                                    case gS => exact Nat.le_trans htl30 (by rw [sizeLine_eq]; decide)
                                    case gk => rfl
                                    case ga => rfl
                                    case gkeep => exact fun i => !decide (two.getD i 0 ∈ one)
                                    case gOut => exact fun i v => ∃ t, v = .int ((fun s => s) (two.getD i 0)) t
                                    case gel =>
                                      refine Elts.toC ?_
                                      rintro C i s' m₂ E' ⟨h₂, tk₂, rfl⟩ ⟨v, hv, h1⟩ Fc Nc
                                      dsimp only at Fc Nc ⊢
                                      obtain ⟨k, t, rfl, hk⟩ := intsAre_at hE2 hv
                                      have hk' : two.getD i 0 = k := by rw [List.getD_eq_getElem?_getD, hk]; rfl
                                      refine ⟨wpAny_tests_one ?_, fun _ => ?_⟩
                                      · repeat (first | with_reducible ((with_reducible show wpAny _ _ (compareOp _ (Value.int _ _) (Value.ref _)) _ _ _); (k_here; k_dflt (refine' notin_led ?nN ?nl ?_; (case nN => k_asm); (case nl => k_mem); k_whole))) | with_reducible ((k_here; (with_reducible show wpAny _ _ (eval _ (compEnvC _ _ _ _)) _ _ _); k_dflt (first | (refine' ldVarK Fc.ns ?cv ?_; (case cv => assumption); k_whole) | (refine' ldCellK ?cv ⟨_, (Nc.get ?cm), ?cd⟩ ?_; (case cv => rfl); (case cm => k_mem); (case cd => assumption); k_whole)))) | walk1)
                                        exact EltEnd.mk (by rw [hk', hol]) (keeps_toks _ _)
                                      · repeat (first | with_reducible ((k_here; (with_reducible show wpAny _ _ (eval _ (compEnvC _ _ _ _)) _ _ _); k_dflt (first | (refine' ldVarK Fc.ns ?cv ?_; (case cv => assumption); k_whole) | (refine' ldCellK ?cv ⟨_, (Nc.get ?cm), ?cd⟩ ?_; (case cv => rfl); (case cm => k_mem); (case cd => assumption); k_whole)))) | walk1)
                                        exact EltEnd.mk ⟨_, by rw [hk']⟩ (keeps_toks _ _)
                                    case gfin =>
                                      intro h'' Dy h₄₃ tk₄₃ ys2 F₄₃ N₄₃ hDy hO hl
                                      have hJ2 : IntsAre ys2 (two.filter fun s => !decide (s ∈ one)) := by
                                        have h3 := paired_intsAre hO
                                        have h4 := range_sel two 0 (fun s => !decide (s ∈ one)) (fun s => s)
                                        rw [List.map_id'] at h4
                                        rw [← h4, ← hE2.length]
                                        exact h3
                                      rw [lst_eq] at N₄₃
                                      k_lt hDy; repeat (have hN : Ap _ _ := Nat.ne_of_lt (And.left hDy); replace hDy := And.right hDy)
                                      replace hDy : Ap _ _ := Nat.ne_of_lt hDy
                                      clear hO hl
                                      have hlf2 : (two.filter fun s => !decide (s ∈ one)).length < 2 ^ 62 := by
                                        have := List.length_filter_le (fun s => !decide (s ∈ one)) two
                                        rw [hE2.length] at htl30
                                        omega
                                      dsimp only
                                      repeat ((first | with_reducible ((with_reducible show wpAny _ _ (call (Value.builtin "len") _) _ _ _); (k_here; k_dflt (refine' len_led ?lN ?lm ?li ?lf ?_; (case lN => k_asm); (case lm => k_mem); (case li => assumption); (case lf => assumption); k_whole))) | with_reducible ((with_reducible show wpAny _ _ (call (Value.ref _) _) _ _ _); (k_here; k_dflt (first | refine' hidden_call ?cB ?cF ?cX ?cT ?ck ?cd1 ?cN ?ca ?cs ?chid | refine' ends_call ?cB ?cF ?cX ?cT ?ck ?cd1 ?cN ?ca ?cs ?cends | refine' lev_f ?cv ?cB ?cF ?cX ?cT ?ck ?cd1 ?cN ?ca ?cs ?cla ?clb ?clev | refine' strip_f ?cS ?cr ?cB ?cF ?cX ?cT ?ck ?cd1 ?cN ?cG ?cstrip); (case cB => k_asm); (case cF => k_asm); (case cX => k_asm); (case cT => k_asm); (case ck => rfl); (case cd1 => ktr_room); (try (case cN => k_asm)))) | walk1); try dsimp only)
                                      case cv => exact PF.lev
                                      case ca => exact PF.lenA
                                      case cs => exact PF.lenB
                                      case cla => exact PF.lowA
                                      case clb => exact PF.lowB
                                      case clev =>
                                        intro ta h₄₅ tk₄₅ F₄₅ N₄₅
                                        dsimp only
                                        repeat (walk1; try dsimp only)
                                        · (with_reducible rename Fr g L _ _ => F₉₉)
                                          (with_reducible rename News g L _ _ => N₉₉)
                                          exact ⟨rfl, _, _, _, _, _, ps4, ps24, rfl, F₉₉, N₉₉, G₃₃, by k_mem, by k_mem⟩
                                        · rename_i hne
                                          exact absurd rfl hne)
end Mine
end
theorem PySem.Challenge.cw_tc0044_01_holds : PySem.Challenge.rw_tc0044_01.Holds :=
  Mine.law_walk
