import PyProof.Rows.All
import Wide.All
import OpenK.AllK
import Wide.FinOn
import PySem.Challenge.RW_xb0050_01
set_option Elab.async false
set_option maxRecDepth 100000
section
open PySem PySem.W PyProof.Rows
set_option maxHeartbeats 0
open_top Mine.hd for PySem.Challenge.rw_xb0050_01

end
section
open PySem PySem.W PySem.Calls PyProof.Rows Builtin Builtin.ObjectAttr
namespace Mine
theorem slot_fn_ga : Slot "function" "__getattribute__" "object.__getattribute__" :=
  .of (owner := "object") (n := "__getattribute__") (by rw [typeLookup_type, builtinLookup_eq_fast]; kernel_rfl) (by decide +kernel) (by decide +kernel) (by decide +kernel)
    (by first | exact .inl (by decide +kernel) | exact .inr (by decide +kernel)) (by rw [isSubtype_type]; kernel_rfl)
theorem slot_fn_sa : Slot "function" "__setattr__" "object.__setattr__" :=
  .of (owner := "object") (n := "__setattr__") (by rw [typeLookup_type, builtinLookup_eq_fast]; kernel_rfl) (by decide +kernel) (by decide +kernel) (by decide +kernel)
    (by first | exact .inl (by decide +kernel) | exact .inr (by decide +kernel)) (by rw [isSubtype_type]; kernel_rfl)
theorem entry_oga : entryFor table "object.__getattribute__" = some Builtin.«object.__getattribute__» := entryFor_of_tree (by kernel_rfl)
theorem entry_osa : entryFor table "object.__setattr__" = some Builtin.«object.__setattr__» := entryFor_of_tree (by kernel_rfl)
theorem args_oga (a b : Value) : argsOk "object.__getattribute__" ⟨[a, b], []⟩ := by unfold argsOk; kernel_rfl
theorem args_osa (a b c : Value) : argsOk "object.__setattr__" ⟨[a, b, c], []⟩ := by unfold argsOk; kernel_rfl
theorem fn_no_tag : typeLookup (.type "function") "tag" = pure none := by rw [typeLookup_type, builtinLookup_eq_fast]; kernel_rfl
theorem fn_mro : mroOf (.type "function") = pure [.type "function", .type "object"] := by first | rfl | kernel_rfl
theorem fn_passes (self : Value) : refuseLoop self "__setattr__" [.type "function", .type "object"] = pure () := by kernel_rfl
end Mine

namespace Mine
theorem handed_self {v : Value} (h : handedIn v = true) : handedOut v = pure v := by
  cases v with
  | builtin id => simp only [handedOut, handedIn] at *; simp_all
  | _ => rfl
section
variable {prog : Program} {w : World} {A : Around} {E : Value → Shared → Prop} {s : Shared}

/-- a function object that bears a dict with one name of interest -/
theorem fn_getAttr {a d : Addr} {o : Obj} {fd : FuncData} {m : Str → Option Value} {v : Value} {expr : Bool} {Q : Value → Shared → Prop}
    (ho : s.heap.get? a = some o) (hc : o.cls = .type "function") (hdat : o.data = .func fd) (hd : o.dict = some d) (hn : s.heap.Ns d m) (hm : m "tag" = some v) (hv : handedOut v = pure v)
    (hQ : Q v { s with toks := s.toks + 1 }) : wpAny (model prog w) A (getAttr (.ref a) "tag" expr) Q E s := by
  have hT : s.TypeIs (.ref a) "function" := ⟨o, ho, hc⟩
  have hT' : ({ s with toks := s.toks + 1 } : Shared).TypeIs (.ref a) "function" := ⟨o, ho, hc⟩
  unfold getAttr
  refine wpAny_bind (wpAny_mkText ?_)
  unfold getAttrBy
  refine wpAny_holding (wpAny_bind (wpAny_typeOf hT' (wpAny_bind (wpAny_of_eq slot_fn_ga.lookup ?_))))
  show wpAny _ A (getAttrByItsOwn (.ref a) (.str "tag" s.toks) (.type "function") (.builtin "object.__getattribute__") true expr) _ _ _
  unfold getAttrByItsOwn
  refine wpAny_bind (wpAny_pure ?_)
  refine wpAny_bind (wpAny_attempt (wpAny_holding ?_))
  have e : callGetattribute (.ref a) (.str "tag" s.toks) (.builtin "object.__getattribute__") expr = boundAndCalled (.builtin "object.__getattribute__") (.ref a) (.str "tag" s.toks) := by
    unfold callGetattribute; cases expr <;> rfl
  rw [e]
  unfold boundAndCalled
  rw [slot_fn_ga.bind]
  refine wpAny_bind (wpAny_pure ?_)
  refine wpAny_call_entry slot_fn_ga hT' entry_oga ?_ (args_oga _ _)
  unfold Builtin.«object.__getattribute__»
  refine wpAny_bind (wpAny_of_eq (a := (Value.ref a, [Value.str "tag" s.toks])) (by rfl) ?_)
  dsimp only
  refine wpAny_bind (wpAny_of_eq (a := ("tag" : Str)) (by rfl) ?_)
  refine wpAny_bind (wpAny_typeOf hT' ?_)
  unfold find
  refine wpAny_bind (wpAny_bind (wpAny_of_eq fn_no_tag (wpAny_bind (wpAny_pure (wpAny_bind (wpAny_pure ?_))))))
  show wpAny _ _ (ownThenClass (.ref a) "tag" none none) _ _ _
  unfold ownThenClass inOwnDict ObjectAttr.ownDict
  refine wpAny_bind (wpAny_bind (wpAny_bind (wpAny_loadPart ho ?_)))
  rw [hdat]
  dsimp only
  unfold instanceDict
  refine wpAny_bind (wpAny_loadPart ho ?_)
  rw [hc, hd]
  dsimp only
  refine wpAny_pure ?_
  unfold inDict
  refine wpAny_nsGet hn ?_
  rw [hm]
  dsimp only
  refine wpAny_bind (wpAny_rule (wpAny_pure ?_))
  dsimp only
  refine wpAny_pure ⟨v, rfl, ?_⟩
  exact wpAny_of_eq hv hQ

/-- the first name that a function object bears: its dict is made -/
theorem fn_setAttr {a : Addr} {o : Obj} {fd : FuncData} {v : Value} {Q : Unit → Shared → Prop}
    (ho : s.heap.get? a = some o) (hc : o.cls = .type "function") (hdat : o.data = .func fd) (hd : o.dict = none)
    (hQ : ∀ h' tk, (∀ b x, b ≠ a → s.heap.get? b = some x → h'.get? b = some x) → h'.get? a = some { o with dict := some s.heap.objs.size } → h'.Ns s.heap.objs.size (fun x => if x = "tag" then some v else none) →
      s.heap.objs.size < h'.objs.size → Q () { s with heap := h', toks := tk }) : wpAny (model prog w) A (setAttr (.ref a) "tag" v) Q E s := by
  have hT : s.TypeIs (.ref a) "function" := ⟨o, ho, hc⟩
  have hT' : ({ s with toks := s.toks + 1 } : Shared).TypeIs (.ref a) "function" := ⟨o, ho, hc⟩
  unfold setAttr
  refine wpAny_bind (wpAny_mkText ?_)
  refine wpAny_bind (wpAny_callSpecial?_slot hT' slot_fn_sa (wpAny_call_entry slot_fn_sa hT' entry_osa ?_ (args_osa _ _ _)))
  obtain ⟨h, g, dr, t, os⟩ := s
  dsimp only at ho hQ hT hT' ⊢
  unfold Builtin.«object.__setattr__»
  refine wpAny_bind (m := refuseIfOverridden (.ref a) "__setattr__") ?_
  rw [refuse_eq]
  refine wpAny_bind (wpAny_typeOf hT' (wpAny_bind (wpAny_of_eq fn_mro ?_)))
  rw [fn_passes]
  refine wpAny_pure ?_
  refine wpAny_bind (wpAny_of_eq (a := ("tag" : Str)) (by rfl) ?_)
  refine wpAny_bind (wpAny_typeOf hT' ?_)
  refine wpAny_bind (wpAny_of_eq fn_no_tag (wpAny_bind (wpAny_pure ?_)))
  show wpAny _ _ (storeInOwnDict (.ref a) (.type "function") (.str "tag" t) "tag" v false) _ _ _
  unfold storeInOwnDict
  refine wpAny_bind (wpAny_of_eq (a := ()) (by rfl) ?_)
  rw [if_neg (by decide)]
  unfold ownDictForStores instanceDict
  refine wpAny_bind (wpAny_bind (wpAny_loadPart ho ?_))
  rw [hc, hd]
  dsimp only
  rw [if_neg (by decide +kernel), hdat]
  dsimp only
  have ha : a ≠ h.objs.size := Nat.ne_of_lt (Heap.lt_size ho)
  have ho₁ : (h.push { cls := .type "dict", data := .dict #[] }).get? a = some o := Heap.get?_push_of_some _ ho
  refine wpAny_bind (wpAny_alloc' (wpAny_bind (wpAny_update' ho₁ ?_)))
  refine wpAny_of_eq (a := some h.objs.size) (by rfl) ?_
  generalize hH : ((h.push { cls := .type "dict", data := .dict #[] }).update a fun o => { o with dict := some h.objs.size }) = H
  have hs : Heap.SameBut a (h.push { cls := .type "dict", data := .dict #[] }) H := by rw [← hH]; exact Heap.SameBut.update ..
  have hga : H.get? a = some { o with dict := some h.objs.size } := by
    rw [← hH]; exact Heap.get?_update_self _ ho₁ (by obtain ⟨oc, od, odt, osl⟩ := o; subst hdat; rfl)
  have hgd : H.get? h.objs.size = some { cls := .type "dict", data := .dict #[] } := by rw [hs.2 _ (Ne.symm ha)]; exact Heap.get?_push_size _ rfl
  have hnd : H.Ns h.objs.size (fun _ => none) := ⟨_, #[], _, hgd, rfl, fun e he => absurd he (by simp), fun _ => rfl⟩
  show wpAny _ _ (storeInDict h.objs.size (.str "tag" t) "tag" v) _ _ _
  unfold storeInDict newKeyGuard
  refine wpAny_bind (wpAny_pure (wpAny_bind (wpAny_nsSet1 (Heap.Ns1.of_empty hnd) fun h' hn' hs' => ?_)))
  obtain ⟨oD, esD, epD, hoD, hdD, hcD⟩ := hn'.count (Within.cons "tag" v Within.nil)
  refine wpAny_bind (wpAny_lookBehind hoD (by rw [hdD]; exact pastItsLine_dict (Nat.le_trans hcD (by rw [List.length_cons, List.length_nil, sizeLine_eq]; omega))) ?_)
  refine wpAny_pure ⟨.none, rfl, ?_⟩
  refine wpAny_pure ?_
  refine hQ h' _ (fun b x hb e => ?_) ((hs'.2 a ha).trans hga) hn'.ns ?_
  · have hlt := Heap.lt_size e
    rw [hs'.2 b (Nat.ne_of_lt hlt), hs.2 b hb]
    exact Heap.get?_push_of_some _ e
  · rw [hs'.1, hs.1, Heap.size_push]; exact Nat.lt_succ_self _
end
end Mine

end
section
open PySem PySem.W PySem.Calls PyProof.Rows Builtin
namespace Mine
theorem boot_slice : bootBuiltins "slice" = some (.type "slice") := by decide +kernel
theorem mro_slice : mroOf (.type "slice") = pure [.type "slice", .type "object"] := by rw [mroOf_type]; kernel_rfl
theorem lookup_slice_new : typeLookup (.type "slice") "__new__" = pure (some (.builtin "slice.__new__")) := by rw [typeLookup_type, builtinLookup_eq_fast]; kernel_rfl
theorem slot_slice_init : Slot "slice" "__init__" "object.__init__" :=
  .of (owner := "object") (n := "__init__") (by rw [typeLookup_type, builtinLookup_eq_fast]; kernel_rfl) (by decide +kernel) (by decide +kernel) (by decide +kernel)
    (by first | exact .inl (by decide +kernel) | exact .inr (by decide +kernel)) (by rw [isSubtype_type]; kernel_rfl)
theorem called_slice : TypeCalled "slice" "slice.__new__" "object.__init__" :=
  ⟨by decide +kernel, by decide +kernel, ⟨_, _, mro_slice⟩, madeBy_type mro_slice lookup_slice_new (by decide +kernel), by decide +kernel, by rw [isSubtype_type]; kernel_rfl, slot_slice_init⟩
theorem typeCall_slice_2 (a b : Value) : checkTypeCall "slice" ⟨[a, b], []⟩ = pure () := by kernel_rfl
theorem newCall_slice_2 (a b : Value) : checkBuiltinCall "slice.__new__" ⟨[.type "slice", a, b], []⟩ = pure () := by kernel_rfl
theorem entry_slice_new : entryFor table "slice.__new__" = some Builtin.«slice.__new__» := entryFor_of_tree (by kernel_rfl)
theorem initArgs_slice_2 (obj a b : Value) : argsOk "object.__init__" ⟨[obj, a, b], []⟩ := by unfold argsOk; kernel_rfl
theorem sub_slice : isSubtype (.type "slice") (.type "slice") = pure true := by rw [isSubtype_type]; kernel_rfl
abbrev sliceObj (a b : Value) : Obj := { cls := .type "slice", data := .fields #[a, b, .none] }
theorem slice_meets (a b : Value) : Meets (Builtin.«slice.__new__» ⟨[.type "slice", a, b], []⟩) (fun _ R s => R (.ok (.ret (.ref s.heap.objs.size))) { s with heap := s.heap.push (sliceObj a b) }) := by
  refine Meets.of_wp fun prog w A R s hs => ?_
  unfold Builtin.«slice.__new__»
  refine wpAny_bind (m := isType (.type "slice")) (wpAny_of_eq (a := true) (by rfl) ?_)
  simp only [Bool.not_true, Bool.false_eq_true, if_false]
  refine wpAny_bind (wpAny_of_eq sub_slice ?_)
  simp only [Bool.not_true, Bool.false_eq_true, if_false]
  refine wpAny_bind (wpAny_of_eq (a := [a, b]) (by rfl) ?_)
  dsimp only
  refine wpAny_bind ?_
  unfold newFields
  refine wpAny_newObj_type ?_ (by size_fits)
  exact wpAny_pure ⟨_, rfl, hs⟩
section
variable {prog : Program} {w : World} {A : Around} {E : Value → Shared → Prop} {s : Shared} {h₀ : Heap} {L : Addr} {m : Str → Option Value} {news : List (Addr × Obj)}
theorem call_slice {a b : Value} {Q : Value → Shared → Prop} (h : Q (.ref s.heap.objs.size) { s with heap := s.heap.push (sliceObj a b) }) : wpAny (model prog w) A (call (.type "slice") [a, b]) Q E s :=
  callType_new called_slice (by decide) (typeCall_slice_2 a b) (newCall_slice_2 a b) (fun obj => initArgs_slice_2 obj a b) entry_slice_new (slice_meets a b)
    ⟨⟨_, Heap.get?_push_size _ rfl, rfl⟩, h⟩
theorem call_slice_K {a b : Value} {Q : Value → Shared → Prop} (F : Fr h₀ L s.heap m) (N : News h₀ L s.heap news)
    (h : ∀ q h', Fr h₀ L h' m → News h₀ L h' ((q, sliceObj a b) :: news) → (∀ p ∈ news, p.1 < q) → Q (.ref q) { s with heap := h' }) : wpAny (model prog w) A (call (.type "slice") [a, b]) Q E s :=
  call_slice (h _ _ (F.push _) (N.push F _) fun p hp => Heap.lt_size (N p hp).1)
end
end Mine

end
section
open PySem PySem.W PySem.Calls PyProof.Rows
namespace Mine
abbrev A0 : Around := { handled := none, depth := 500, frames := none, guards := none, units := 500 }
section
variable {w : World} {p : Program} {loose : List Str} {mean : ExcName → Option Value} {mg mb : Str → Option Value} {s : Shared} {Q : Value → Shared → Prop} {E : Value → Shared → Prop}

/-- what a call hands back: a bool, and every object stands as it stood -/
abbrev BackB (s : Shared) (Q : Value → Shared → Prop) (r : Bool) : Prop := ∀ b h' tk, b = r → (∀ a o, s.heap.get? a = some o → h'.get? a = some o) → Q (.bool b) { s with heap := h', toks := tk }

theorem len_lit {A : Around} {x : Str} {t : Tok} {n : Nat} (hn : x.length = n) (hz : n ≤ 1000) (h : Q (.int (n : Int) (s.toks + 1)) { s with toks := s.toks + 1 + 1 }) :
    wpAny (model PySem.Challenge.rw_xb0050_01.row.prog w) A (call (.builtin "len") [.str x t]) Q E s := by
  subst hn
  exact P.len_str (by omega) h
local macro_rules | `(tactic| walk_at "call builtin:len") => `(tactic| (k_here; (with_reducible show wpAny _ _ (call (Value.builtin "len") [Value.str (PySem.Str.ofString _) _]) _ _ _); (refine len_lit (n := 4) (by decide +kernel) (by decide) ?_)))

set_option maxHeartbeats 8000000 in
theorem taken_int (T : Top p loose mean mg mb s.heap) (mark : Str) (t1 t2 : Tok) (hQ : BackB s Q false) : (hd.heap_39 w.params).In s.heap →
   wpAny (model PySem.Challenge.rw_xb0050_01.row.prog w) A0 (call (.ref 42) [.str mark t1, .int 5 t2]) Q E s := by
  k_fill
  intro X
  refine wpAny_call ?_
  refine codeAny_call_def (by decide) (X _ _ (by k_is)) rfl T.nolimit (codeRec_of X (by k_is)) rfl (BindsTo.of_eq rfl) (by decide) (locs rfl) (fun h₁ hn hk => ?_) rfl rfl rfl
  have F : Fr s.heap s.heap.objs.size h₁ _ := ⟨hn, hk, Nat.le_refl _⟩
  have N : News s.heap s.heap.objs.size h₁ [] := News.nil
  k_steps
  all_goals exact hQ _ _ _ (by first | rfl | decide +kernel | (rename (_ = _) => e9; simp_all)) (Fr.keep (by assumption))

set_option maxHeartbeats 8000000 in
theorem taken_0 (T : Top p loose mean mg mb s.heap) (x : Str) (t1 t2 : Tok) (hQ : BackB s Q true) : (hd.heap_39 w.params).In s.heap →
   wpAny (model PySem.Challenge.rw_xb0050_01.row.prog w) A0 (call (.ref 42) [.str (Str.ofString "{*}*") t1, .str x t2]) Q E s := by
  k_fill
  intro X
  refine wpAny_call ?_
  refine codeAny_call_def (by decide) (X _ _ (by k_is)) rfl T.nolimit (codeRec_of X (by k_is)) rfl (BindsTo.of_eq rfl) (by decide) (locs rfl) (fun h₁ hn hk => ?_) rfl rfl rfl
  have F : Fr s.heap s.heap.objs.size h₁ _ := ⟨hn, hk, Nat.le_refl _⟩
  have N : News s.heap s.heap.objs.size h₁ [] := News.nil
  k_steps
  all_goals exact hQ _ _ _ (by first | rfl | decide +kernel | (rename (_ = _) => e9; simp_all)) (Fr.keep (by assumption))

set_option maxHeartbeats 8000000 in
theorem taken_1 (T : Top p loose mean mg mb s.heap) (x : Str) (t1 t2 : Tok) (hx : x.length ≤ 100) (hQ : BackB s Q (Txt.slice x none (some 1) != Str.ofString "{")) : (hd.heap_39 w.params).In s.heap →
   wpAny (model PySem.Challenge.rw_xb0050_01.row.prog w) A0 (call (.ref 42) [.str (Str.ofString "{}*") t1, .str x t2]) Q E s := by
  k_fill
  intro X
  refine wpAny_call ?_
  refine codeAny_call_def (by decide) (X _ _ (by k_is)) rfl T.nolimit (codeRec_of X (by k_is)) rfl (BindsTo.of_eq rfl) (by decide) (locs rfl) (fun h₁ hn hk => ?_) rfl rfl rfl
  have F : Fr s.heap s.heap.objs.size h₁ _ := ⟨hn, hk, Nat.le_refl _⟩
  have N : News s.heap s.heap.objs.size h₁ [] := News.nil
  k_steps
  all_goals exact hQ _ _ _ (by first | rfl | decide +kernel | (rename (_ = _) => e9; simp_all)) (Fr.keep (by assumption))

set_option maxHeartbeats 8000000 in
theorem taken_4 (T : Top p loose mean mg mb s.heap) (x : Str) (t1 t2 : Tok) (hx : x.length ≤ 100) (hQ : BackB s Q (Txt.slice x none (some 3) == Str.ofString "{x}")) : (hd.heap_39 w.params).In s.heap →
   wpAny (model PySem.Challenge.rw_xb0050_01.row.prog w) A0 (call (.ref 42) [.str (Str.ofString "{x}*") t1, .str x t2]) Q E s := by
  k_fill
  intro X
  refine wpAny_call ?_
  refine codeAny_call_def (by decide) (X _ _ (by k_is)) rfl T.nolimit (codeRec_of X (by k_is)) rfl (BindsTo.of_eq rfl) (by decide) (locs rfl) (fun h₁ hn hk => ?_) rfl rfl rfl
  have F : Fr s.heap s.heap.objs.size h₁ _ := ⟨hn, hk, Nat.le_refl _⟩
  have N : News s.heap s.heap.objs.size h₁ [] := News.nil
  k_steps
  all_goals exact hQ _ _ _ (by first | rfl | decide +kernel | (rename (_ = _) => e9; simp_all)) (Fr.keep (by assumption))

set_option maxHeartbeats 8000000 in
theorem taken_5 (T : Top p loose mean mg mb s.heap) (x : Str) (t1 t2 : Tok) (hx : x.length ≤ 100) (hQ : BackB s Q (Txt.slice x none (some 3) == Str.ofString "{y}")) : (hd.heap_39 w.params).In s.heap →
   wpAny (model PySem.Challenge.rw_xb0050_01.row.prog w) A0 (call (.ref 42) [.str (Str.ofString "{y}*") t1, .str x t2]) Q E s := by
  k_fill
  intro X
  refine wpAny_call ?_
  refine codeAny_call_def (by decide) (X _ _ (by k_is)) rfl T.nolimit (codeRec_of X (by k_is)) rfl (BindsTo.of_eq rfl) (by decide) (locs rfl) (fun h₁ hn hk => ?_) rfl rfl rfl
  have F : Fr s.heap s.heap.objs.size h₁ _ := ⟨hn, hk, Nat.le_refl _⟩
  have N : News s.heap s.heap.objs.size h₁ [] := News.nil
  k_steps
  all_goals exact hQ _ _ _ (by first | rfl | decide +kernel | (rename (_ = _) => e9; simp_all)) (Fr.keep (by assumption))

set_option maxHeartbeats 8000000 in
theorem taken_2_0 (T : Top p loose mean mg mb s.heap) (t1 t2 : Tok) (hQ : BackB s Q true) : (hd.heap_39 w.params).In s.heap →
   wpAny (model PySem.Challenge.rw_xb0050_01.row.prog w) A0 (call (.ref 42) [.str (Str.ofString "{*}a") t1, .str (Str.ofString "a") t2]) Q E s := by
  k_fill
  intro X
  refine wpAny_call ?_
  refine codeAny_call_def (by decide) (X _ _ (by k_is)) rfl T.nolimit (codeRec_of X (by k_is)) rfl (BindsTo.of_eq rfl) (by decide) (locs rfl) (fun h₁ hn hk => ?_) rfl rfl rfl
  have F : Fr s.heap s.heap.objs.size h₁ _ := ⟨hn, hk, Nat.le_refl _⟩
  have N : News s.heap s.heap.objs.size h₁ [] := News.nil
  k_steps
  all_goals exact hQ _ _ _ (by first | rfl | decide +kernel | (rename (_ = _) => e9; simp_all)) (Fr.keep (by assumption))

set_option maxHeartbeats 8000000 in
theorem taken_2_1 (T : Top p loose mean mg mb s.heap) (t1 t2 : Tok) (hQ : BackB s Q false) : (hd.heap_39 w.params).In s.heap →
   wpAny (model PySem.Challenge.rw_xb0050_01.row.prog w) A0 (call (.ref 42) [.str (Str.ofString "{*}a") t1, .str (Str.ofString "b") t2]) Q E s := by
  k_fill
  intro X
  refine wpAny_call ?_
  refine codeAny_call_def (by decide) (X _ _ (by k_is)) rfl T.nolimit (codeRec_of X (by k_is)) rfl (BindsTo.of_eq rfl) (by decide) (locs rfl) (fun h₁ hn hk => ?_) rfl rfl rfl
  have F : Fr s.heap s.heap.objs.size h₁ _ := ⟨hn, hk, Nat.le_refl _⟩
  have N : News s.heap s.heap.objs.size h₁ [] := News.nil
  k_steps
  all_goals exact hQ _ _ _ (by first | rfl | decide +kernel | (rename (_ = _) => e9; simp_all)) (Fr.keep (by assumption))

set_option maxHeartbeats 8000000 in
theorem taken_2_2 (T : Top p loose mean mg mb s.heap) (t1 t2 : Tok) (hQ : BackB s Q true) : (hd.heap_39 w.params).In s.heap →
   wpAny (model PySem.Challenge.rw_xb0050_01.row.prog w) A0 (call (.ref 42) [.str (Str.ofString "{*}a") t1, .str (Str.ofString "{x}a") t2]) Q E s := by
  k_fill
  intro X
  refine wpAny_call ?_
  refine codeAny_call_def (by decide) (X _ _ (by k_is)) rfl T.nolimit (codeRec_of X (by k_is)) rfl (BindsTo.of_eq rfl) (by decide) (locs rfl) (fun h₁ hn hk => ?_) rfl rfl rfl
  have F : Fr s.heap s.heap.objs.size h₁ _ := ⟨hn, hk, Nat.le_refl _⟩
  have N : News s.heap s.heap.objs.size h₁ [] := News.nil
  k_steps
  all_goals exact hQ _ _ _ (by first | rfl | decide +kernel | (rename (_ = _) => e9; simp_all)) (Fr.keep (by assumption))

set_option maxHeartbeats 8000000 in
theorem taken_2_3 (T : Top p loose mean mg mb s.heap) (t1 t2 : Tok) (hQ : BackB s Q false) : (hd.heap_39 w.params).In s.heap →
   wpAny (model PySem.Challenge.rw_xb0050_01.row.prog w) A0 (call (.ref 42) [.str (Str.ofString "{*}a") t1, .str (Str.ofString "{x}b") t2]) Q E s := by
  k_fill
  intro X
  refine wpAny_call ?_
  refine codeAny_call_def (by decide) (X _ _ (by k_is)) rfl T.nolimit (codeRec_of X (by k_is)) rfl (BindsTo.of_eq rfl) (by decide) (locs rfl) (fun h₁ hn hk => ?_) rfl rfl rfl
  have F : Fr s.heap s.heap.objs.size h₁ _ := ⟨hn, hk, Nat.le_refl _⟩
  have N : News s.heap s.heap.objs.size h₁ [] := News.nil
  k_steps
  all_goals exact hQ _ _ _ (by first | rfl | decide +kernel | (rename (_ = _) => e9; simp_all)) (Fr.keep (by assumption))

set_option maxHeartbeats 8000000 in
theorem taken_2_4 (T : Top p loose mean mg mb s.heap) (t1 t2 : Tok) (hQ : BackB s Q true) : (hd.heap_39 w.params).In s.heap →
   wpAny (model PySem.Challenge.rw_xb0050_01.row.prog w) A0 (call (.ref 42) [.str (Str.ofString "{*}a") t1, .str (Str.ofString "{y}a") t2]) Q E s := by
  k_fill
  intro X
  refine wpAny_call ?_
  refine codeAny_call_def (by decide) (X _ _ (by k_is)) rfl T.nolimit (codeRec_of X (by k_is)) rfl (BindsTo.of_eq rfl) (by decide) (locs rfl) (fun h₁ hn hk => ?_) rfl rfl rfl
  have F : Fr s.heap s.heap.objs.size h₁ _ := ⟨hn, hk, Nat.le_refl _⟩
  have N : News s.heap s.heap.objs.size h₁ [] := News.nil
  k_steps
  all_goals exact hQ _ _ _ (by first | rfl | decide +kernel | (rename (_ = _) => e9; simp_all)) (Fr.keep (by assumption))

set_option maxHeartbeats 8000000 in
theorem taken_2_5 (T : Top p loose mean mg mb s.heap) (t1 t2 : Tok) (hQ : BackB s Q false) : (hd.heap_39 w.params).In s.heap →
   wpAny (model PySem.Challenge.rw_xb0050_01.row.prog w) A0 (call (.ref 42) [.str (Str.ofString "{*}a") t1, .str (Str.ofString "ba") t2]) Q E s := by
  k_fill
  intro X
  refine wpAny_call ?_
  refine codeAny_call_def (by decide) (X _ _ (by k_is)) rfl T.nolimit (codeRec_of X (by k_is)) rfl (BindsTo.of_eq rfl) (by decide) (locs rfl) (fun h₁ hn hk => ?_) rfl rfl rfl
  have F : Fr s.heap s.heap.objs.size h₁ _ := ⟨hn, hk, Nat.le_refl _⟩
  have N : News s.heap s.heap.objs.size h₁ [] := News.nil
  k_steps
  all_goals exact hQ _ _ _ (by first | rfl | decide +kernel | (rename (_ = _) => e9; simp_all)) (Fr.keep (by assumption))

set_option maxHeartbeats 8000000 in
theorem taken_2_6 (T : Top p loose mean mg mb s.heap) (t1 t2 : Tok) (hQ : BackB s Q false) : (hd.heap_39 w.params).In s.heap →
   wpAny (model PySem.Challenge.rw_xb0050_01.row.prog w) A0 (call (.ref 42) [.str (Str.ofString "{*}a") t1, .str (Str.ofString "{y}ba") t2]) Q E s := by
  k_fill
  intro X
  refine wpAny_call ?_
  refine codeAny_call_def (by decide) (X _ _ (by k_is)) rfl T.nolimit (codeRec_of X (by k_is)) rfl (BindsTo.of_eq rfl) (by decide) (locs rfl) (fun h₁ hn hk => ?_) rfl rfl rfl
  have F : Fr s.heap s.heap.objs.size h₁ _ := ⟨hn, hk, Nat.le_refl _⟩
  have N : News s.heap s.heap.objs.size h₁ [] := News.nil
  k_steps
  all_goals exact hQ _ _ _ (by first | rfl | decide +kernel | (rename (_ = _) => e9; simp_all)) (Fr.keep (by assumption))

set_option maxHeartbeats 8000000 in
theorem taken_3_0 (T : Top p loose mean mg mb s.heap) (t1 t2 : Tok) (hQ : BackB s Q false) : (hd.heap_39 w.params).In s.heap →
   wpAny (model PySem.Challenge.rw_xb0050_01.row.prog w) A0 (call (.ref 42) [.str (Str.ofString "{*}ba") t1, .str (Str.ofString "a") t2]) Q E s := by
  k_fill
  intro X
  refine wpAny_call ?_
  refine codeAny_call_def (by decide) (X _ _ (by k_is)) rfl T.nolimit (codeRec_of X (by k_is)) rfl (BindsTo.of_eq rfl) (by decide) (locs rfl) (fun h₁ hn hk => ?_) rfl rfl rfl
  have F : Fr s.heap s.heap.objs.size h₁ _ := ⟨hn, hk, Nat.le_refl _⟩
  have N : News s.heap s.heap.objs.size h₁ [] := News.nil
  k_steps
  all_goals exact hQ _ _ _ (by first | rfl | decide +kernel | (rename (_ = _) => e9; simp_all)) (Fr.keep (by assumption))

set_option maxHeartbeats 8000000 in
theorem taken_3_1 (T : Top p loose mean mg mb s.heap) (t1 t2 : Tok) (hQ : BackB s Q false) : (hd.heap_39 w.params).In s.heap →
   wpAny (model PySem.Challenge.rw_xb0050_01.row.prog w) A0 (call (.ref 42) [.str (Str.ofString "{*}ba") t1, .str (Str.ofString "b") t2]) Q E s := by
  k_fill
  intro X
  refine wpAny_call ?_
  refine codeAny_call_def (by decide) (X _ _ (by k_is)) rfl T.nolimit (codeRec_of X (by k_is)) rfl (BindsTo.of_eq rfl) (by decide) (locs rfl) (fun h₁ hn hk => ?_) rfl rfl rfl
  have F : Fr s.heap s.heap.objs.size h₁ _ := ⟨hn, hk, Nat.le_refl _⟩
  have N : News s.heap s.heap.objs.size h₁ [] := News.nil
  k_steps
  all_goals exact hQ _ _ _ (by first | rfl | decide +kernel | (rename (_ = _) => e9; simp_all)) (Fr.keep (by assumption))

set_option maxHeartbeats 8000000 in
theorem taken_3_2 (T : Top p loose mean mg mb s.heap) (t1 t2 : Tok) (hQ : BackB s Q false) : (hd.heap_39 w.params).In s.heap →
   wpAny (model PySem.Challenge.rw_xb0050_01.row.prog w) A0 (call (.ref 42) [.str (Str.ofString "{*}ba") t1, .str (Str.ofString "{x}a") t2]) Q E s := by
  k_fill
  intro X
  refine wpAny_call ?_
  refine codeAny_call_def (by decide) (X _ _ (by k_is)) rfl T.nolimit (codeRec_of X (by k_is)) rfl (BindsTo.of_eq rfl) (by decide) (locs rfl) (fun h₁ hn hk => ?_) rfl rfl rfl
  have F : Fr s.heap s.heap.objs.size h₁ _ := ⟨hn, hk, Nat.le_refl _⟩
  have N : News s.heap s.heap.objs.size h₁ [] := News.nil
  k_steps
  all_goals exact hQ _ _ _ (by first | rfl | decide +kernel | (rename (_ = _) => e9; simp_all)) (Fr.keep (by assumption))

set_option maxHeartbeats 8000000 in
theorem taken_3_3 (T : Top p loose mean mg mb s.heap) (t1 t2 : Tok) (hQ : BackB s Q false) : (hd.heap_39 w.params).In s.heap →
   wpAny (model PySem.Challenge.rw_xb0050_01.row.prog w) A0 (call (.ref 42) [.str (Str.ofString "{*}ba") t1, .str (Str.ofString "{x}b") t2]) Q E s := by
  k_fill
  intro X
  refine wpAny_call ?_
  refine codeAny_call_def (by decide) (X _ _ (by k_is)) rfl T.nolimit (codeRec_of X (by k_is)) rfl (BindsTo.of_eq rfl) (by decide) (locs rfl) (fun h₁ hn hk => ?_) rfl rfl rfl
  have F : Fr s.heap s.heap.objs.size h₁ _ := ⟨hn, hk, Nat.le_refl _⟩
  have N : News s.heap s.heap.objs.size h₁ [] := News.nil
  k_steps
  all_goals exact hQ _ _ _ (by first | rfl | decide +kernel | (rename (_ = _) => e9; simp_all)) (Fr.keep (by assumption))

set_option maxHeartbeats 8000000 in
theorem taken_3_4 (T : Top p loose mean mg mb s.heap) (t1 t2 : Tok) (hQ : BackB s Q false) : (hd.heap_39 w.params).In s.heap →
   wpAny (model PySem.Challenge.rw_xb0050_01.row.prog w) A0 (call (.ref 42) [.str (Str.ofString "{*}ba") t1, .str (Str.ofString "{y}a") t2]) Q E s := by
  k_fill
  intro X
  refine wpAny_call ?_
  refine codeAny_call_def (by decide) (X _ _ (by k_is)) rfl T.nolimit (codeRec_of X (by k_is)) rfl (BindsTo.of_eq rfl) (by decide) (locs rfl) (fun h₁ hn hk => ?_) rfl rfl rfl
  have F : Fr s.heap s.heap.objs.size h₁ _ := ⟨hn, hk, Nat.le_refl _⟩
  have N : News s.heap s.heap.objs.size h₁ [] := News.nil
  k_steps
  all_goals exact hQ _ _ _ (by first | rfl | decide +kernel | (rename (_ = _) => e9; simp_all)) (Fr.keep (by assumption))

set_option maxHeartbeats 8000000 in
theorem taken_3_5 (T : Top p loose mean mg mb s.heap) (t1 t2 : Tok) (hQ : BackB s Q true) : (hd.heap_39 w.params).In s.heap →
   wpAny (model PySem.Challenge.rw_xb0050_01.row.prog w) A0 (call (.ref 42) [.str (Str.ofString "{*}ba") t1, .str (Str.ofString "ba") t2]) Q E s := by
  k_fill
  intro X
  refine wpAny_call ?_
  refine codeAny_call_def (by decide) (X _ _ (by k_is)) rfl T.nolimit (codeRec_of X (by k_is)) rfl (BindsTo.of_eq rfl) (by decide) (locs rfl) (fun h₁ hn hk => ?_) rfl rfl rfl
  have F : Fr s.heap s.heap.objs.size h₁ _ := ⟨hn, hk, Nat.le_refl _⟩
  have N : News s.heap s.heap.objs.size h₁ [] := News.nil
  k_steps
  all_goals exact hQ _ _ _ (by first | rfl | decide +kernel | (rename (_ = _) => e9; simp_all)) (Fr.keep (by assumption))

set_option maxHeartbeats 8000000 in
theorem taken_3_6 (T : Top p loose mean mg mb s.heap) (t1 t2 : Tok) (hQ : BackB s Q true) : (hd.heap_39 w.params).In s.heap →
   wpAny (model PySem.Challenge.rw_xb0050_01.row.prog w) A0 (call (.ref 42) [.str (Str.ofString "{*}ba") t1, .str (Str.ofString "{y}ba") t2]) Q E s := by
  k_fill
  intro X
  refine wpAny_call ?_
  refine codeAny_call_def (by decide) (X _ _ (by k_is)) rfl T.nolimit (codeRec_of X (by k_is)) rfl (BindsTo.of_eq rfl) (by decide) (locs rfl) (fun h₁ hn hk => ?_) rfl rfl rfl
  have F : Fr s.heap s.heap.objs.size h₁ _ := ⟨hn, hk, Nat.le_refl _⟩
  have N : News s.heap s.heap.objs.size h₁ [] := News.nil
  k_steps
  all_goals exact hQ _ _ _ (by first | rfl | decide +kernel | (rename (_ = _) => e9; simp_all)) (Fr.keep (by assumption))

set_option maxHeartbeats 8000000 in
theorem wild_0 (T : Top p loose mean mg mb s.heap) (t1 : Tok) (hQ : BackB s Q true) : (hd.heap_39 w.params).In s.heap →
   wpAny (model PySem.Challenge.rw_xb0050_01.row.prog w) A0 (call (.ref 21) [.str (Str.ofString "{*}*") t1]) Q E s := by
  k_fill
  intro X
  refine wpAny_call ?_
  refine codeAny_call_def (by decide) (X _ _ (by k_is)) rfl T.nolimit (codeRec_of X (by k_is)) rfl (BindsTo.of_eq rfl) (by decide) (locs rfl) (fun h₁ hn hk => ?_) rfl rfl rfl
  have F : Fr s.heap s.heap.objs.size h₁ _ := ⟨hn, hk, Nat.le_refl _⟩
  have N : News s.heap s.heap.objs.size h₁ [] := News.nil
  k_steps
  all_goals exact hQ _ _ _ (by first | rfl | decide +kernel | (rename (_ = _) => e9; simp_all)) (Fr.keep (by assumption))

set_option maxHeartbeats 8000000 in
theorem wild_1 (T : Top p loose mean mg mb s.heap) (t1 : Tok) (hQ : BackB s Q true) : (hd.heap_39 w.params).In s.heap →
   wpAny (model PySem.Challenge.rw_xb0050_01.row.prog w) A0 (call (.ref 21) [.str (Str.ofString "{}*") t1]) Q E s := by
  k_fill
  intro X
  refine wpAny_call ?_
  refine codeAny_call_def (by decide) (X _ _ (by k_is)) rfl T.nolimit (codeRec_of X (by k_is)) rfl (BindsTo.of_eq rfl) (by decide) (locs rfl) (fun h₁ hn hk => ?_) rfl rfl rfl
  have F : Fr s.heap s.heap.objs.size h₁ _ := ⟨hn, hk, Nat.le_refl _⟩
  have N : News s.heap s.heap.objs.size h₁ [] := News.nil
  k_steps
  all_goals exact hQ _ _ _ (by first | rfl | decide +kernel | (rename (_ = _) => e9; simp_all)) (Fr.keep (by assumption))

set_option maxHeartbeats 8000000 in
theorem wild_2 (T : Top p loose mean mg mb s.heap) (t1 : Tok) (hQ : BackB s Q true) : (hd.heap_39 w.params).In s.heap →
   wpAny (model PySem.Challenge.rw_xb0050_01.row.prog w) A0 (call (.ref 21) [.str (Str.ofString "{*}a") t1]) Q E s := by
  k_fill
  intro X
  refine wpAny_call ?_
  refine codeAny_call_def (by decide) (X _ _ (by k_is)) rfl T.nolimit (codeRec_of X (by k_is)) rfl (BindsTo.of_eq rfl) (by decide) (locs rfl) (fun h₁ hn hk => ?_) rfl rfl rfl
  have F : Fr s.heap s.heap.objs.size h₁ _ := ⟨hn, hk, Nat.le_refl _⟩
  have N : News s.heap s.heap.objs.size h₁ [] := News.nil
  k_steps
  all_goals exact hQ _ _ _ (by first | rfl | decide +kernel | (rename (_ = _) => e9; simp_all)) (Fr.keep (by assumption))

set_option maxHeartbeats 8000000 in
theorem wild_3 (T : Top p loose mean mg mb s.heap) (t1 : Tok) (hQ : BackB s Q true) : (hd.heap_39 w.params).In s.heap →
   wpAny (model PySem.Challenge.rw_xb0050_01.row.prog w) A0 (call (.ref 21) [.str (Str.ofString "{*}ba") t1]) Q E s := by
  k_fill
  intro X
  refine wpAny_call ?_
  refine codeAny_call_def (by decide) (X _ _ (by k_is)) rfl T.nolimit (codeRec_of X (by k_is)) rfl (BindsTo.of_eq rfl) (by decide) (locs rfl) (fun h₁ hn hk => ?_) rfl rfl rfl
  have F : Fr s.heap s.heap.objs.size h₁ _ := ⟨hn, hk, Nat.le_refl _⟩
  have N : News s.heap s.heap.objs.size h₁ [] := News.nil
  k_steps
  all_goals exact hQ _ _ _ (by first | rfl | decide +kernel | (rename (_ = _) => e9; simp_all)) (Fr.keep (by assumption))

set_option maxHeartbeats 8000000 in
theorem wild_4 (T : Top p loose mean mg mb s.heap) (t1 : Tok) (hQ : BackB s Q true) : (hd.heap_39 w.params).In s.heap →
   wpAny (model PySem.Challenge.rw_xb0050_01.row.prog w) A0 (call (.ref 21) [.str (Str.ofString "{x}*") t1]) Q E s := by
  k_fill
  intro X
  refine wpAny_call ?_
  refine codeAny_call_def (by decide) (X _ _ (by k_is)) rfl T.nolimit (codeRec_of X (by k_is)) rfl (BindsTo.of_eq rfl) (by decide) (locs rfl) (fun h₁ hn hk => ?_) rfl rfl rfl
  have F : Fr s.heap s.heap.objs.size h₁ _ := ⟨hn, hk, Nat.le_refl _⟩
  have N : News s.heap s.heap.objs.size h₁ [] := News.nil
  k_steps
  all_goals exact hQ _ _ _ (by first | rfl | decide +kernel | (rename (_ = _) => e9; simp_all)) (Fr.keep (by assumption))

set_option maxHeartbeats 8000000 in
theorem wild_5 (T : Top p loose mean mg mb s.heap) (t1 : Tok) (hQ : BackB s Q true) : (hd.heap_39 w.params).In s.heap →
   wpAny (model PySem.Challenge.rw_xb0050_01.row.prog w) A0 (call (.ref 21) [.str (Str.ofString "{y}*") t1]) Q E s := by
  k_fill
  intro X
  refine wpAny_call ?_
  refine codeAny_call_def (by decide) (X _ _ (by k_is)) rfl T.nolimit (codeRec_of X (by k_is)) rfl (BindsTo.of_eq rfl) (by decide) (locs rfl) (fun h₁ hn hk => ?_) rfl rfl rfl
  have F : Fr s.heap s.heap.objs.size h₁ _ := ⟨hn, hk, Nat.le_refl _⟩
  have N : News s.heap s.heap.objs.size h₁ [] := News.nil
  k_steps
  all_goals exact hQ _ _ _ (by first | rfl | decide +kernel | (rename (_ = _) => e9; simp_all)) (Fr.keep (by assumption))

set_option maxHeartbeats 8000000 in
theorem wild_6 (T : Top p loose mean mg mb s.heap) (t1 : Tok) (hQ : BackB s Q false) : (hd.heap_39 w.params).In s.heap →
   wpAny (model PySem.Challenge.rw_xb0050_01.row.prog w) A0 (call (.ref 21) [.str (Str.ofString "a") t1]) Q E s := by
  k_fill
  intro X
  refine wpAny_call ?_
  refine codeAny_call_def (by decide) (X _ _ (by k_is)) rfl T.nolimit (codeRec_of X (by k_is)) rfl (BindsTo.of_eq rfl) (by decide) (locs rfl) (fun h₁ hn hk => ?_) rfl rfl rfl
  have F : Fr s.heap s.heap.objs.size h₁ _ := ⟨hn, hk, Nat.le_refl _⟩
  have N : News s.heap s.heap.objs.size h₁ [] := News.nil
  k_steps
  all_goals exact hQ _ _ _ (by first | rfl | decide +kernel | (rename (_ = _) => e9; simp_all)) (Fr.keep (by assumption))

set_option maxHeartbeats 8000000 in
theorem wild_7 (T : Top p loose mean mg mb s.heap) (t1 : Tok) (hQ : BackB s Q false) : (hd.heap_39 w.params).In s.heap →
   wpAny (model PySem.Challenge.rw_xb0050_01.row.prog w) A0 (call (.ref 21) [.str (Str.ofString "{x}a") t1]) Q E s := by
  k_fill
  intro X
  refine wpAny_call ?_
  refine codeAny_call_def (by decide) (X _ _ (by k_is)) rfl T.nolimit (codeRec_of X (by k_is)) rfl (BindsTo.of_eq rfl) (by decide) (locs rfl) (fun h₁ hn hk => ?_) rfl rfl rfl
  have F : Fr s.heap s.heap.objs.size h₁ _ := ⟨hn, hk, Nat.le_refl _⟩
  have N : News s.heap s.heap.objs.size h₁ [] := News.nil
  k_steps
  all_goals exact hQ _ _ _ (by first | rfl | decide +kernel | (rename (_ = _) => e9; simp_all)) (Fr.keep (by assumption))

set_option maxHeartbeats 8000000 in
theorem wild_8 (T : Top p loose mean mg mb s.heap) (t1 : Tok) (hQ : BackB s Q false) : (hd.heap_39 w.params).In s.heap →
   wpAny (model PySem.Challenge.rw_xb0050_01.row.prog w) A0 (call (.ref 21) [.str (Str.ofString "*") t1]) Q E s := by
  k_fill
  intro X
  refine wpAny_call ?_
  refine codeAny_call_def (by decide) (X _ _ (by k_is)) rfl T.nolimit (codeRec_of X (by k_is)) rfl (BindsTo.of_eq rfl) (by decide) (locs rfl) (fun h₁ hn hk => ?_) rfl rfl rfl
  have F : Fr s.heap s.heap.objs.size h₁ _ := ⟨hn, hk, Nat.le_refl _⟩
  have N : News s.heap s.heap.objs.size h₁ [] := News.nil
  k_steps
  all_goals exact hQ _ _ _ (by first | rfl | decide +kernel | (rename (_ = _) => e9; simp_all)) (Fr.keep (by assumption))
end
end Mine

end
section
open PySem PySem.W PySem.Calls PyProof.Rows
namespace Mine
section
variable {prog : Program} {w : World} {A : Around} {E : Value → Shared → Prop} {s : Shared} {h₀ : Heap} {L f : Addr} {m : Str → Option Value} {news : List (Addr × Obj)} {o : Obj} {fd : FuncData} {v : Value}

/-- the ledger's new function object takes the name «tag» -/
theorem set_thing {Q : Unit → Shared → Prop} (F : Fr h₀ L s.heap m) (N : News h₀ L s.heap ((f, o) :: news)) (hc : o.cls = .type "function") (hdat : o.data = .func fd) (hd : o.dict = none) (hoff : ∀ p ∈ news, p.1 ≠ f)
    (hQ : ∀ h' tk d, Fr h₀ L h' m → News h₀ L h' ((f, { o with dict := some d }) :: news) → (h'.Ns d fun x => if x = "tag" then some v else none) → h₀.get? d = none → (∀ p ∈ news, p.1 < d) → Q () { s with heap := h', toks := tk }) :
    wpAny (model prog w) A (setAttr (.ref f) "tag" v) Q E s := by
  have hf := N (f, o) (.head _)
  refine fn_setAttr hf.1 hc hdat hd fun h' tk hk hf' hn hlt => ?_
  have hk₀ : ∀ b x, h₀.get? b = some x → h'.get? b = some x := fun b x e => hk b x (fun q => by rw [q, hf.2.2] at e; cases e) (F.keep b x e)
  refine hQ h' tk s.heap.objs.size ⟨F.ns.at' fun x e => hk L x hf.2.1.symm e, hk₀, F.above⟩ (fun p hp => ?_) hn (Heap.get?_none_of_le (Nat.le_trans F.above (Nat.le_of_lt F.ns.lt))) (fun p hp => Heap.lt_size (N p (.tail _ hp)).1)
  rcases List.mem_cons.mp hp with rfl | hp
  · exact ⟨hf', hf.2⟩
  · exact ⟨hk _ _ (hoff p hp) (N p (.tail _ hp)).1, (N p (.tail _ hp)).2⟩
end

section
variable {w : World} {p : Program} {loose : List Str} {mean : ExcName → Option Value} {mg mb : Str → Option Value} {s : Shared} {Q : Value → Shared → Prop} {E : Value → Shared → Prop}

/-- a function object that bears «tag» -/
def ThingAt (h : Heap) (a d : Addr) (v : Value) : Prop :=
  ∃ o fd, h.get? a = some o ∧ o.cls = .type "function" ∧ o.data = .func fd ∧ o.dict = some d ∧ h.Ns d fun x => if x = "tag" then some v else none
abbrev BackT (s : Shared) (Q : Value → Shared → Prop) (v : Value) : Prop := ∀ f d h' tk c', (∀ b x, b ≠ 30 → s.heap.get? b = some x → h'.get? b = some x) → h'.get? 30 = some (tabObj #[rawInt 43, rawInt 12, .ref c']) → s.heap.get? f = none → s.heap.get? d = none →
  ThingAt h' f d v → Q (.ref f) { s with heap := h', toks := tk }

theorem none_of_hide {H : Heap} {f : Nat} (h : (hideAll H [30]).get? f = none) (hf : @LT.lt Nat _ 30 f) : H.get? f = none := by
  cases e : H.get? f with
  | none => rfl
  | some o => rw [hideAll_get [30] e (by simpa using Nat.ne_of_gt hf)] at h; cases h
theorem keep_of_hide {H h' : Heap} (k : ∀ b o, (hideAll H [30]).get? b = some o → h'.get? b = some o) : ∀ b x, b ≠ 30 → H.get? b = some x → h'.get? b = some x :=
  fun b x hb e => k b x (hideAll_get [30] e (by simpa using hb))
local macro_rules | `(tactic| walk_at "setAttr ref") => `(tactic| (k_here; (with_reducible show wpAny _ _ (setAttr (Value.ref _) (PySem.Str.ofString "tag") _) _ _ _); k_dflt (refine' set_thing ?F ?N ?c ?d ?e ?off ?_; (case F => k_asm); (case N => k_asm); (case c => rfl); (case d => rfl); (case e => rfl); (case off => k_all)); intro h' tk' dd F' N' hD hd0 hdlt; (try k_lt hdlt)))

set_option maxHeartbeats 8000000 in
theorem thing_new (h30 : s.heap.get? 30 = some (tabObj #[])) (T : Top p loose mean mg mb (hideAll s.heap [30])) (C : CodeHd (hideAll s.heap [30]) 34 30) (v : Value) (hQ : BackT s Q v) : (hd.heap_39 w.params).In (hideAll s.heap [30]) →
   wpAny (model PySem.Challenge.rw_xb0050_01.row.prog w) A0 (call (.ref 35) [v]) Q E s := by
  k_fill
  intro X
  refine wpAny_call ?_
  refine codeAny_call_def (by decide) (of_hideAll _ (X _ _ (by k_is))) rfl (T.nolimit.keeps fun _ _ e => of_hideAll _ e) (codeRec_of (X.keeps fun _ _ e => of_hideAll _ e) (by k_is)) rfl (BindsTo.of_eq rfl) (by decide) (locs rfl) (fun h₁ hn hk => ?_) rfl rfl rfl
  have F : Fr (hideAll s.heap [30]) s.heap.objs.size h₁ _ := ⟨hn, fun b o e => hk b o (of_hideAll _ e), Nat.le_of_eq (hideAll_size _ _)⟩
  have N : News (hideAll s.heap [30]) s.heap.objs.size h₁ [(30, tabObj #[])] := fun p hp => by
    rcases List.mem_cons.mp hp with rfl | hp
    · exact ⟨hk _ _ h30, Nat.ne_of_lt (Heap.lt_size h30), hideAll_none _ (.head _)⟩
    · cases hp
  k_steps
  all_goals (
    with_reducible rename Fr _ _ _ _ => F9
    with_reducible rename News _ _ _ _ => N9
    refine hQ _ _ _ _ _ (keep_of_hide F9.keep) (N9 (30, _) (by k_dflt k_mem)).1 (none_of_hide (N9 _ (.head _)).2.2 (by omega)) (none_of_hide (by assumption) (by omega)) ⟨_, _, (N9 _ (.head _)).1, rfl, rfl, rfl, by assumption⟩)

set_option maxHeartbeats 8000000 in
theorem thing_again (c₀ : Addr) (h30 : s.heap.get? 30 = some (tabObj #[rawInt 43, rawInt 12, .ref c₀])) (T : Top p loose mean mg mb (hideAll s.heap [30])) (C : CodeHd (hideAll s.heap [30]) 34 30) (v : Value) (hQ : BackT s Q v) : (hd.heap_39 w.params).In (hideAll s.heap [30]) →
   wpAny (model PySem.Challenge.rw_xb0050_01.row.prog w) A0 (call (.ref 35) [v]) Q E s := by
  k_fill
  intro X
  refine wpAny_call ?_
  refine codeAny_call_def (by decide) (of_hideAll _ (X _ _ (by k_is))) rfl (T.nolimit.keeps fun _ _ e => of_hideAll _ e) (codeRec_of (X.keeps fun _ _ e => of_hideAll _ e) (by k_is)) rfl (BindsTo.of_eq rfl) (by decide) (locs rfl) (fun h₁ hn hk => ?_) rfl rfl rfl
  have F : Fr (hideAll s.heap [30]) s.heap.objs.size h₁ _ := ⟨hn, fun b o e => hk b o (of_hideAll _ e), Nat.le_of_eq (hideAll_size _ _)⟩
  have N : News (hideAll s.heap [30]) s.heap.objs.size h₁ [(30, tabObj #[rawInt 43, rawInt 12, .ref c₀])] := fun p hp => by
    rcases List.mem_cons.mp hp with rfl | hp
    · exact ⟨hk _ _ h30, Nat.ne_of_lt (Heap.lt_size h30), hideAll_none _ (.head _)⟩
    · cases hp
  k_steps
  all_goals (
    with_reducible rename Fr _ _ _ _ => F9
    with_reducible rename News _ _ _ _ => N9
    refine hQ _ _ _ _ _ (keep_of_hide F9.keep) (N9 (30, _) (by k_dflt k_mem)).1 (none_of_hide (N9 _ (.head _)).2.2 (by omega)) (none_of_hide (by assumption) (by omega)) ⟨_, _, (N9 _ (.head _)).1, rfl, rfl, rfl, by assumption⟩)
end
end Mine

end
section
open PySem PySem.W PySem.Calls PyProof.Rows
namespace Mine
/-! A generator function `def g(.., result): for x in result: pres; if test: yield x` that is drained by a loop which writes two cells of its own (Cc, Dl) alone. -/
section
variable {M : Model} {A : Around} {R : GenEnd} {Y : Protocol} {n : Nat} {s₀ : Shared} {c : Code} {fs : List Frame} {s : Shared} {env : Env}
  {K : Flow → Sem Fin} {H : Value → Sem Fin} {gd : Bool → Bool} {lv : List Value → List Value}
theorem execs_append_wrap : ∀ (pres rest : List Stmt) (K : Flow → Sem Fin) (H : Value → Sem Fin) (gd : Bool → Bool) (lv : List Value → List Value),
    (execs (pres ++ rest) env).wrap K H gd lv = (execs pres env).wrap (fun f => match f with | .next => (execs rest env).wrap K H gd lv | f => K f) H gd lv
  | [], rest, K, H, gd, lv => rfl
  | st :: pres, rest, K, H, gd, lv => by
    rw [List.cons_append, execs_cons_wrap, execs_cons_wrap]
    refine Sem.wrap_congr _ _ _ (fun f => ?_) fun _ => rfl
    cases f with
    | next => exact execs_append_wrap pres rest K H gd lv
    | _ => rfl
theorem seg_execs_append {pres rest : List Stmt}
    (h : wpAny M (A.over c fs) (execs pres env) (fun f s' => f = .next ∧ Seg M A R Y n s₀ c ((execs rest env).wrap K H gd lv) fs s') (fun x s' => Seg M A R Y n s₀ c (H x) fs s') s) :
    Seg M A R Y n s₀ c ((execs (pres ++ rest) env).wrap K H gd lv) fs s := by
  rw [execs_append_wrap]
  refine seg_wrap (wpAny_mono h (fun f s' h' => ?_) fun _ _ e => e)
  obtain ⟨rfl, h'⟩ := h'
  exact h'
theorem seg_If {test : Expr} {body orelse : List Stmt} {pos : Pos}
    (h : wpAny M (A.over c fs) (isTrue test env (eval test env)) (fun b s' => Seg M A R Y n s₀ c ((if b = true then execs body env else execs orelse env).wrap K H gd lv) fs s') (fun x s' => Seg M A R Y n s₀ c (H x) fs s') s) :
    Seg M A R Y n s₀ c ((exec (.If test body orelse pos) env).wrap K H gd lv) fs s := by
  rw [exec_If]
  exact seg_bind_wrap (wpAny_standAt (seg_bind_wrap (wpAny_mono h (fun _ _ x => x) fun _ _ e => e)))
end

section
variable {prog : Program} {w : World} {A : Around}

/-- what a generator must leave as it stands: what stood when it was called, and a few cells (ks) that were made behind that -/
def Stays (gb : Heap) (ks : List Addr) (b : Addr) : Prop := b ∈ ks ∨ ∃ o, gb.get? b = some o
def GKept (C : Addr) (gb : Heap) (ks : List Addr) (s₀ s : Shared) : Prop := ∃ h' tk, s = { s₀ with heap := h', toks := tk } ∧ ∀ b o, b ≠ C → Stays gb ks b → s₀.heap.get? b = some o → h'.get? b = some o
theorem GKept.refl (C : Addr) (gb : Heap) (ks : List Addr) (s : Shared) : GKept C gb ks s s := ⟨s.heap, s.toks, rfl, fun _ _ _ _ e => e⟩
theorem GKept.step {C : Addr} {gb : Heap} {ks : List Addr} {s₀ s : Shared} (x : GKept C gb ks s₀ s) {h' : Heap} {tk : Nat} (hk : ∀ b o, b ≠ C → Stays gb ks b → s.heap.get? b = some o → h'.get? b = some o) : GKept C gb ks s₀ { s with heap := h', toks := tk } := by
  obtain ⟨h₁, tk₁, rfl, hk₁⟩ := x
  exact ⟨h', tk, rfl, fun b o hC hB e => hk b o hC hB (hk₁ b o hC hB e)⟩

def gProto (C B Cc Dl : Addr) (gb : Heap) (ks : List Addr) (pz : Nat → Bool) (items : Array Value) : Protocol := fun m s₀ v s kap =>
  (∃ i, (passing pz items.size 0)[(passing pz items.size 0).length - 1 - m]? = some i ∧ items[i]? = some v) ∧ GKept C gb ks s₀ s ∧
    ∀ s'' : Shared, (∀ b o, b ≠ Cc → b ≠ Dl → s.heap.get? b = some o → s''.heap.get? b = some o) → B ≤ s''.heap.objs.size → kap (.send .none) s''
abbrev gEnd (C : Addr) (gb : Heap) (ks : List Addr) : GenEnd := fun n s₀ r s₁ => r = .ok (.ret .none) ∧ (n = 0 ∧ GKept C gb ks s₀ s₁)

/-- one turn's test, in a frame that stands behind gb -/
structure TurnOk (prog : Program) (w : World) (env : Env) (x : Str) (pres : List Stmt) (test : Expr) (items : Array Value) (pz : Nat → Bool) (gb : Heap) : Prop where
  go : ∀ (A' : Around) E' i v (s₂ : Shared) m₂ (ext : List Addr), A'.handled = none → A'.depth ≤ 500 → A'.units ≤ 500 → items[i]? = some v → s₂.heap.Ns env.locals m₂ → m₂ x = some v →
    (∀ b o, gb.get? b = some o → s₂.heap.get? b = some o) → (∀ b ∈ ext, env.locals < b) →
    wpAny (model prog w) A' (execs pres env) (fun f s₃ => f = .next ∧ wpAny (model prog w) A' (isTrue test env (eval test env)) (fun b s₄ => b = pz i ∧ ∃ h' tk m', s₄ = { s₂ with heap := h', toks := tk } ∧
      (∀ b o, gb.get? b = some o → h'.get? b = some o) ∧ (∀ b ∈ ext, ∀ o, s₂.heap.get? b = some o → h'.get? b = some o) ∧ h'.Ns env.locals m' ∧ m' x = some v) E' s₃) E' s₂

theorem seg_gLoop {x : Str} {px py : Pos} {pres : List Stmt} {test : Expr} {yp ep ip : Pos} {items : Array Value} {pz : Nat → Bool} {gb : Heap} {ks : List Addr} {env : Env} {B Cc Dl ax I : Addr} {pf : Pos} {c₀ : Code} {Kc : Result → Sem Fin}
    (hh : A.handled = none) (hd : A.depth ≤ 400) (hu : A.units ≤ 400) (hc0 : c₀.weight ≤ 1 ∧ c₀.cUnits ≤ 3)
    (hx : env.kindOf x = some .local) (hkf : env.scope.kind = .function) (hco : env.scope.isCoroutine = false) (hin : interactive env = false) (hxd : (x == ("__debug__" : Str)) = false)
    (hCB : env.locals < B) (hcB : Cc < B ∧ Dl < B) (hCC : env.locals < Cc ∧ env.locals < Dl) (hI : B ≤ I) (hgb : gb.objs.size ≤ env.locals) (hks : ∀ b ∈ ks, env.locals < b ∧ b < B) (hlist : gb.IsList ax items)
    (T : TurnOk prog w env x pres test items pz gb)
    (hend : ∀ n s₀ s, GKept env.locals gb ks s₀ s → n = 0 → Seg (model prog w) A (gEnd env.locals gb ks) (gProto env.locals B Cc Dl gb ks pz items) n s₀ c₀ (Kc (.ok .next)) [] s) :
    ∀ (k i : Nat) (s₀ s : Shared) (m : Str → Option Value), items.size - i = k → i ≤ items.size → s.heap.IsListIter I ax i → s.heap.Ns env.locals m → GKept env.locals gb ks s₀ s → (∀ b o, gb.get? b = some o → s.heap.get? b = some o) →
      Seg (model prog w) A (gEnd env.locals gb ks) (gProto env.locals B Cc Dl gb ks pz items) (passing pz items.size i).length s₀
        (.forLoop (.Name x px) (.ref I) (pres ++ [.If test [.Expr (.Yield (some (.Name x py)) yp) ep] [] ip]) [] env)
        ((model prog w).den (.forLoop (.Name x px) (.ref I) (pres ++ [.If test [.Expr (.Yield (some (.Name x py)) yp) ep] [] ip]) [] env))
        [.ret Kc none false [] c₀ pf []] s := by
  generalize hbody : pres ++ [Stmt.If test [.Expr (.Yield (some (.Name x py)) yp) ep] [] ip] = body
  have hgC : ∀ b o, gb.get? b = some o → b < env.locals := fun b o e => Nat.lt_of_lt_of_le (Heap.lt_size e) hgb
  have haxB : ax < B := by obtain ⟨_, e, _⟩ := hlist; exact Nat.lt_trans (hgC _ _ e) hCB
  have hst : ∀ b, Stays gb ks b → b < B := fun b hb => hb.elim (fun hb => (hks b hb).2) fun ⟨o, e⟩ => Nat.lt_trans (hgC _ _ e) hCB
  have hne : ax ≠ I := Nat.ne_of_lt (Nat.lt_of_lt_of_le haxB hI)
  have hCI : env.locals ≠ I := Nat.ne_of_lt (Nat.lt_of_lt_of_le hCB hI)
  have hov : A.over (.forLoop (.Name x px) (.ref I) body [] env) [.ret Kc none false [] c₀ pf []] = A.over (.forLoop (.Name x px) (.ref I) body [] env) [.ret Kc none false [] c₀ pf []] := rfl
  have hh' : (A.over (.forLoop (.Name x px) (.ref I) body [] env) [.ret Kc none false [] c₀ pf []]).handled = none := by
    show (marksOver _ (A.handled, A.handled)).1 = none
    rw [hh]; rfl
  have hd' : (A.over (.forLoop (.Name x px) (.ref I) body [] env) [.ret Kc none false [] c₀ pf []]).depth ≤ 500 := by
    show A.depth + frameCount [(c₀, pf)] + (Code.forLoop (.Name x px) (.ref I) body [] env).weight ≤ 500
    rw [frameCount_cons]
    have : (Code.forLoop (.Name x px) (.ref I) body [] env).weight = 0 := rfl
    have h0 : frameCount ([] : List (Code × Pos)) = 0 := rfl
    omega
  have hu' : (A.over (.forLoop (.Name x px) (.ref I) body [] env) [.ret Kc none false [] c₀ pf []]).units ≤ 500 := by
    show A.units + unitsOf [(c₀, pf)] + (Code.forLoop (.Name x px) (.ref I) body [] env).cUnits ≤ 500
    rw [unitsOf_cons]
    have : (Code.forLoop (.Name x px) (.ref I) body [] env).cUnits = 0 := rfl
    have h0 : unitsOf ([] : List (Code × Pos)) = 0 := rfl
    omega
  have W := Walks.list (prog := prog) (w := w) hh' I ax hne items
  have hp : (env.scope.kind == .class || (env.scope.kind == .module && env.locals != env.globals)) = false := by rw [hkf]; rfl
  intro k
  induction k with
  | zero =>
    intro i s₀ s m hk hi hit hn hsince hkp
    have hin : i = items.size := by omega
    subst hin
    have hl : s.heap.IsList ax items := hlist.at fun o e => hkp ax o e
    show Seg _ A _ _ _ s₀ _ ((forTurn (.Name x px) (.ref I) body [] env).onRaise (fun x => do noteFrame x env; theTreesLotGoes x)) _ s
    unfold forTurn
    rw [Sem.onRaise_eq_wrap]
    refine seg_bind_wrap (wpAny_standAt (seg_bind_wrap (wpAny_onRaise (W.done s _ _ ⟨hit, hl⟩ fun h' tk hk' => ?_))))
    refine seg_again rfl ?_
    show Seg _ A _ _ _ s₀ _ (.pure (.done .next)) _ _
    refine seg_leaf (.ok .next) (hend _ _ _ (hsince.step fun b o hbC hbS e => hk' b o ?_ e) (by rw [passing_end]; rfl))
    have : b ≠ I := Nat.ne_of_lt (Nat.lt_of_lt_of_le (hst b hbS) hI)
    simpa using this
  | succ k ih =>
    intro i s₀ s m hk hi hit hn hsince hkp
    have hlt : i < items.size := by omega
    have hl : s.heap.IsList ax items := hlist.at fun o e => hkp ax o e
    show Seg _ A _ _ _ s₀ _ ((forTurn (.Name x px) (.ref I) body [] env).onRaise (fun x => do noteFrame x env; theTreesLotGoes x)) _ s
    unfold forTurn
    rw [Sem.onRaise_eq_wrap]
    refine seg_bind_wrap (wpAny_standAt (seg_bind_wrap (wpAny_onRaise (W.item i s _ _ hlt ⟨hit, hl⟩ fun v h₁ tk₁ hPv hst₁ hk₁ => ?_))))
    refine seg_bind_wrap (wpAny_of_eq (rfl : letOwnedTupleGo (.Name x px) (.ref I) v = pure ()) ?_)
    refine seg_bind_wrap (wpAny_assign_Name (wpAny_storeName_local hx (hn.at' fun o e => hk₁ _ o (by simpa using hCI) e) (fun h₂ hn₂ hs₂ => ?_) hp))
    have up₂ : ∀ b o, b ≠ env.locals → b ≠ I → s.heap.get? b = some o → h₂.get? b = some o := fun b o hbC hbI e => hs₂.extBut b o hbC (hk₁ b o (by simpa using hbI) e)
    have hkp₂ : ∀ b o, gb.get? b = some o → h₂.get? b = some o := fun b o e => up₂ b o (Nat.ne_of_lt (hgC b o e)) (Nat.ne_of_lt (Nat.lt_trans (hgC b o e) (Nat.lt_of_lt_of_le hCB hI))) (hkp b o e)
    have hit₂ : h₂.IsListIter I ax (i + 1) := hst₁.1.at fun o e => hs₂.extBut I o (Ne.symm hCI) e
    rw [Sem.bind_eq_wrap', Sem.wrap_wrap, ← hbody]
    refine seg_execs_append (wpAny_mono (T.go _ _ i v _ _ (I :: ks) hh' hd' hu' hPv hn₂ (by simp) hkp₂ (fun b hb => ?_)) (fun f s₃ h₃ => ?_) fun _ _ e => e)
    · rcases List.mem_cons.mp hb with rfl | hb
      · exact Nat.lt_of_lt_of_le hCB hI
      · exact (hks b hb).1
    obtain ⟨rfl, h₃⟩ := h₃
    refine ⟨rfl, ?_⟩
    rw [execs_cons_wrap]
    refine seg_If (wpAny_mono h₃ (fun b s₄ h₄ => ?_) fun _ _ e => e)
    obtain ⟨rfl, h₄, tk₄, m₄, rfl, hkp₄, hk₄, hn₄, hm₄⟩ := h₄
    dsimp only at hk₄ ⊢
    have hit₄ : h₄.IsListIter I ax (i + 1) := hit₂.at fun o e => hk₄ I (.head _) o e
    have hsince₄ : GKept env.locals gb ks s₀ { s with heap := h₄, toks := tk₄ } := hsince.step fun b o hbC hbS e => by
      have e₂ := up₂ b o hbC (Nat.ne_of_lt (Nat.lt_of_lt_of_le (hst b hbS) hI)) e
      rcases hbS with hb | ⟨o', e'⟩
      · exact hk₄ b (.tail _ hb) o e₂
      · have := hkp₂ b o' e'
        rw [e₂] at this; cases this
        exact hkp₄ b o e'
    rw [hbody]
    cases hpz : pz i with
    | false =>
      rw [passing_false hlt hpz]
      simp only [Bool.false_eq_true, if_false]
      exact seg_again rfl (ih (i + 1) s₀ _ _ (by omega) hlt hit₄ hn₄ hsince₄ hkp₄)
    | true =>
      rw [passing_true hlt hpz, List.length_cons]
      simp only [if_true]
      rw [execs_cons_wrap]
      refine seg_Expr_Yield rfl rfl rfl (wpAny_Name (wpAny_loadName_local hkf hx hn₄ hm₄ ?_) hxd) hco hin
      intro kap hkap
      refine ⟨⟨i, passing_here hlt hpz, hPv⟩, hsince₄, fun s'' hal hB => hkap .none s'' ?_⟩
      refine seg_again rfl (ih (i + 1) s'' s'' _ (by omega) hlt (hit₄.at fun o e => hal I o ?_ ?_ e) (hn₄.at' fun o e => hal _ o (Nat.ne_of_lt hCC.1) (Nat.ne_of_lt hCC.2) e) (GKept.refl _ _ _ _) fun b o e => hal b o ?_ ?_ (hkp₄ b o e))
      · exact Ne.symm (Nat.ne_of_lt (Nat.lt_of_lt_of_le hcB.1 hI))
      · exact Ne.symm (Nat.ne_of_lt (Nat.lt_of_lt_of_le hcB.2 hI))
      · exact Nat.ne_of_lt (Nat.lt_trans (hgC b o e) hCC.1)
      · exact Nat.ne_of_lt (Nat.lt_trans (hgC b o e) hCC.2)
end
end Mine

end
section
open PySem PySem.W PySem.Calls PyProof.Rows
namespace Mine
section
variable {prog : Program} {w : World} {A : Around} {E : Value → Shared → Prop} {s : Shared}

theorem seg_gStart {x r : Str} {px py pr fpos : Pos} {pres : List Stmt} {test : Expr} {yp ep ip : Pos} {items : Array Value} {pz : Nat → Bool} {gb : Heap} {ks : List Addr} {env : Env} {B Cc Dl ax : Addr}
    (hh : A.handled = none) (hd : A.depth ≤ 400) (hu : A.units ≤ 400)
    (hx : env.kindOf x = some .local) (hr : env.kindOf r = some .local) (hkf : env.scope.kind = .function) (hco : env.scope.isCoroutine = false) (hin : interactive env = false) (hxd : (x == ("__debug__" : Str)) = false) (hrd : (r == ("__debug__" : Str)) = false)
    (hCB : env.locals < B) (hcB : Cc < B ∧ Dl < B) (hCC : env.locals < Cc ∧ env.locals < Dl) (hgb : gb.objs.size ≤ env.locals) (hks : ∀ b ∈ ks, env.locals < b ∧ b < B) (hlist : gb.IsList ax items)
    (T : TurnOk prog w env x pres test items pz gb)
    (s₀ s : Shared) (m : Str → Option Value) (hn : s.heap.Ns env.locals m) (hm : m r = some (.ref ax)) (hk : GKept env.locals gb ks s₀ s) (hkp : ∀ b o, gb.get? b = some o → s.heap.get? b = some o) (hB : B ≤ s.heap.objs.size) :
    Seg (model prog w) A (gEnd env.locals gb ks) (gProto env.locals B Cc Dl gb ks pz items) (passing pz items.size 0).length s₀
      (.func [.For (.Name x px) (.Name r pr) (pres ++ [.If test [.Expr (.Yield (some (.Name x py)) yp) ep] [] ip]) [] fpos] env)
      ((model prog w).den (.func [.For (.Name x px) (.Name r pr) (pres ++ [.If test [.Expr (.Yield (some (.Name x py)) yp) ep] [] ip]) [] fpos] env)) [] s := by
  have hl : s.heap.IsList ax items := hlist.at fun o e => hkp ax o e
  refine seg_func ?_
  rw [execs_cons_wrap, exec_For]
  refine seg_bind_wrap (wpAny_standAt ?_)
  refine seg_bind_wrap (wpAny_Name (wpAny_loadName_local hkf hr hn hm ?_) hrd)
  refine seg_bind_wrap (wpAny_of_eq (a := Value.ref ax) (by rfl) ?_)
  refine seg_bind_wrap (wpAny_standAt ?_)
  refine seg_bind_wrap (wpAny_holding (wpAny_pyIter_list hl ?_))
  refine seg_call fun p => ?_
  refine seg_gLoop hh hd hu ⟨Nat.le_refl _, Nat.le_refl _⟩ hx hkf hco hin hxd hCB hcB hCC hB hgb hks hlist T (fun n s₀ s' hg h0 => ?_) items.size 0 s₀ _ m (Nat.sub_zero _) (Nat.zero_le _) ⟨_, Heap.get?_push_size _ rfl, rfl, rfl⟩ (hn.push _) (hk.step fun b o _ _ e => Heap.get?_push_of_some _ e) fun b o e => Heap.get?_push_of_some _ (hkp b o e)
  exact seg_end (.ok (.ret .none)) ⟨rfl, h0, hg⟩

/-- a StopIteration is made and raised where nothing is handled -/
theorem stop_made {B : Around} {α : Type} {F : α → Sem Fin} {T : Fin → Shared → Prop} {S : Value → Shared → Prop} (hB : B.handled = none)
    (h : ∀ e h', (∀ b o, s.heap.get? b = some o → h'.get? b = some o) → ({ s with heap := h' } : Shared).TypeIs e "StopIteration" → S e { s with heap := h' }) :
    wpAny (model prog w) B (newExc (.type "StopIteration") [] >>= fun e => raiseNew e >>= F) T S s := by
  simp only [newExc, newTuple, raiseNew]
  refine wpAny_bind (wpAny_bind (wpAny_newObj_type (wpAny_bind (wpAny_of_eq (a := Value.none) (by first | rfl | (simp only [firstArgMember]; rfl)) (wpAny_newObj_type ?_ (by size_fits)))) (by size_fits)))
  refine wpAny_bind (wpAny_bind (wpAny_handled ?_))
  rw [hB]
  exact wpAny_throw (h _ _ (fun b o e => Heap.get?_push_of_some _ (Heap.get?_push_of_some _ e)) ⟨_, Heap.get?_push_size _ rfl, rfl⟩)
/-- a generator that is no runner is sent None: it hands a value out, its frame bare, or its end is told as a StopIteration -/
theorem gen_woken {B : Around} {a : Addr} {g n : Nat} {gs : GenState} {R : Nat → Shared → Shared → Prop} {Y : Protocol} {T : Fin → Shared → Prop} {S : Value → Shared → Prop} (hB : B.handled = none) (hd : B.depth < recursionLimit) (hl : s.heap.NoLimit)
    (hg : s.heap.IsGen a g) (hs : s.gens[g]? = some gs) (hgo : gs.Goes (model prog w) B (fun n s₀ r s₁ => r = .ok (.ret .none) ∧ R n s₀ s₁) Y n (.send .none) (s.setGen g .running))
    (out : ∀ v s₁ gs', gs'.bare = true → Y (n - 1) (s.setGen g .running) v s₁ (fun q s₂ => match n with
        | 0 => False
        | m + 1 => gs'.Goes (model prog w) B (fun n s₀ r s₁ => r = .ok (.ret .none) ∧ R n s₀ s₁) Y m q s₂) → T (.done (.ret v)) (s₁.setGen g gs'))
    (over : ∀ s₁ e h', R n (s.setGen g .running) s₁ → (∀ b o, s₁.heap.get? b = some o → h'.get? b = some o) → ({ s₁.setGen g .finished with heap := h' } : Shared).TypeIs e "StopIteration" → S e { s₁.setGen g .finished with heap := h' }) :
    wpAny (model prog w) B (Builtin.Generator.genWake (.ref a) (.send .none)) T S s := by
  have alive : gs ≠ .running ∧ gs ≠ .finished := ⟨fun q => (q ▸ hgo : GenState.Goes _ _ _ _ _ .running _ _).elim, fun q => (q ▸ hgo : GenState.Goes _ _ _ _ _ .finished _ _).elim⟩
  unfold Builtin.Generator.genWake
  refine wpAny_bind (wpAny_holding (wpAny_genNumber hg (wpAny_bind (wpAny_genState hs ?_))))
  obtain ⟨n1, n2⟩ := alive
  cases gs
  case running => exact absurd rfl n1
  case finished => exact absurd rfl n2
  all_goals
    refine wpAny_bind (wpAny_roomToWake hl hd (wpAny_resumeQ hs hgo (fun r s₁ hr => ?_) fun v s₁ gs' hb hy => wpAny_pure (out v s₁ gs' hb hy)))
    cases hr.1
    exact stop_made (α := Unit) hB fun e h' k t => over s₁ e h' hr.2 k t

/-- the generator object's next: the value with its frame bare, or the end -/
theorem next_gen {a : Addr} {g n : Nat} {gs : GenState} {P : Nat → Shared → Shared → Prop} {Y : Protocol} {Q : Option Value → Shared → Prop} (hh : A.handled = none) (hl : s.heap.NoLimit) (hroom : A.depth < recursionLimit) (hg : s.heap.IsGen a g) (hgs : s.gens[g]? = some gs)
    (hgo : gs.Goes (model prog w) A.in1 (fun n s₀ r s₁ => r = .ok (.ret .none) ∧ P n s₀ s₁) Y n (.send .none) (s.setGen g .running))
    (hY : ∀ v s₁ gs', gs'.bare = true → Y (n - 1) (s.setGen g .running) v s₁ (fun q s₂ => match n with
        | 0 => False
        | m + 1 => gs'.Goes (model prog w) A.in1 (fun n s₀ r s₁ => r = .ok (.ret .none) ∧ P n s₀ s₁) Y m q s₂) → Q (some v) (s₁.setGen g gs'))
    (hP : ∀ s₁, P n (s.setGen g .running) s₁ → ∀ h', (∀ b o, s₁.heap.get? b = some o → h'.get? b = some o) → Q none { s₁.setGen g .finished with heap := h' }) :
    wpAny (model prog w) A (pyNext (.ref a)) Q E s := by
  unfold pyNext
  refine wpAny_bind (wpAny_attempt (wpAny_callSpecial?_slot (name := Str.ofString "__next__") hg.typeIs slot_gen_next (wpAny_call_entry slot_gen_next hg.typeIs entry_gen_next ?_ (args_gen_next _))))
  refine gen_woken (B := A.in1) hh hroom hl hg hgs hgo (fun v s₁ gs' hb hy => ⟨v, rfl, wpAny_pure (hY v s₁ gs' hb hy)⟩) fun s₁ e h' hp k t => ?_
  exact wpAny_bind (wpAny_isInstance t isSubtype_stop (wpAny_pure (hP s₁ hp h' k)))

theorem heap_grows (h : Heap) : ∀ B, ∃ h' : Heap, (∀ b o, h.get? b = some o → h'.get? b = some o) ∧ B ≤ h'.objs.size
  | 0 => ⟨h, fun _ _ e => e, Nat.zero_le _⟩
  | B + 1 => let ⟨h', k, l⟩ := heap_grows h B
    ⟨h'.push { cls := .none, data := .plain }, fun b o e => Heap.get?_push_of_some _ (k b o e), by rw [Heap.size_push]; exact Nat.succ_le_succ l⟩
/-- the generator stands before its j-th item -/
def GAt (prog : Program) (w : World) (A : Around) (a : Addr) (g : Nat) (C B Cc Dl : Addr) (gb : Heap) (ks : List Addr) (items : Array Value) (pz : Nat → Bool) (j : Nat) (s : Shared) : Prop :=
  s.heap.IsGen a g ∧ s.heap.NoLimit ∧ ∃ gs, s.gens[g]? = some gs ∧ ∀ s'' : Shared, (∀ b o, b ≠ Cc → b ≠ Dl → s.heap.get? b = some o → s''.heap.get? b = some o) → B ≤ s''.heap.objs.size →
    gs.Goes (model prog w) A.in1 (gEnd C gb ks) (gProto C B Cc Dl gb ks pz items) ((passing pz items.size 0).length - j) (.send .none) s''

variable {a : Addr} {g : Nat} {C B Cc Dl : Addr} {gb : Heap} {ks : List Addr} {items : Array Value} {pz : Nat → Bool}
theorem GAt.frame {j : Nat} (x : GAt prog w A a g C B Cc Dl gb ks items pz j s) (hac : a ≠ Cc ∧ a ≠ Dl) (hst : cStatics ≠ Cc ∧ cStatics ≠ Dl) {h' : Heap} {tk : Nat} (hk : ∀ b o, b ≠ Cc → b ≠ Dl → s.heap.get? b = some o → h'.get? b = some o) :
    GAt prog w A a g C B Cc Dl gb ks items pz j { s with heap := h', toks := tk } :=
  ⟨let ⟨o, nm, qn, ho, r⟩ := x.1; ⟨o, nm, qn, hk a o hac.1 hac.2 ho, r⟩, (let ⟨mc, hns, hnn⟩ := x.2.1; ⟨mc, hns.at' fun o e => hk _ o hst.1 hst.2 e, hnn⟩),
    let ⟨gs, hgs, hgo⟩ := x.2.2; ⟨gs, hgs, fun s'' hal => hgo s'' fun b o h1 h2 e => hal b o h1 h2 (hk b o h1 h2 e)⟩⟩

theorem GAt.item {j : Nat} {Q : Option Value → Shared → Prop} (x : GAt prog w A a g C B Cc Dl gb ks items pz j s) (hh : A.handled = none) (hroom : A.depth < recursionLimit) (hj : j < (passing pz items.size 0).length) (haC : a ≠ C ∧ Stays gb ks a) (hst : cStatics ≠ C ∧ Stays gb ks cStatics) (hB : B ≤ s.heap.objs.size)
    (hQ : ∀ v s' i, (passing pz items.size 0)[j]? = some i → items[i]? = some v → GAt prog w A a g C B Cc Dl gb ks items pz (j + 1) s' → (∀ b o, b ≠ C → Stays gb ks b → s.heap.get? b = some o → s'.heap.get? b = some o) → GenOnlyQ g s.gens s'.gens → s'.drawn = s.drawn → s'.os = s.os → Q (some v) s') :
    wpAny (model prog w) A (pyNext (.ref a)) Q E s := by
  obtain ⟨hg, hl, gs, hgs, hgo⟩ := x
  obtain ⟨m, hm⟩ : ∃ m, (passing pz items.size 0).length - j = m + 1 := ⟨(passing pz items.size 0).length - j - 1, by omega⟩
  rw [hm] at hgo
  refine next_gen (P := fun n s₀ s₁ => n = 0 ∧ GKept C gb ks s₀ s₁) hh hl hroom hg hgs (hgo _ (fun _ _ _ _ e => e) hB) (fun v s₁ gs' hb hv => ?_) (fun s₁ hp h' hk => ?_)
  · obtain ⟨⟨i, hi, hF⟩, ⟨h₁, tk₁, rfl, hk₁⟩, hkap⟩ := hv
    have hidx : (passing pz items.size 0).length - 1 - (m + 1 - 1) = j := by omega
    rw [hidx] at hi
    refine hQ v _ i hi hF ⟨let ⟨o, nm, qn, ho, r⟩ := hg; ⟨o, nm, qn, hk₁ a o haC.1 haC.2 ho, r⟩, (let ⟨mc, hns, hnn⟩ := hl; ⟨mc, hns.at' fun o e => hk₁ _ o hst.1 hst.2 e, hnn⟩), gs', setGen_self (gs := .running) (setGen_self hgs), fun s'' hal hB' => ?_⟩
      (fun b o hbC hbB e => hk₁ b o hbC hbB e) (.of ((GenOnly.setGen s g .running).trans (GenOnly.setGen _ g gs')) (setGen_self (gs := .running) (setGen_self hgs)) hb) rfl rfl
    have e : (passing pz items.size 0).length - (j + 1) = m := by omega
    rw [e]
    exact hkap s'' hal hB'
  · exact absurd hp.1 (Nat.succ_ne_zero m)

theorem GAt.done {Q : Option Value → Shared → Prop} (x : GAt prog w A a g C B Cc Dl gb ks items pz (passing pz items.size 0).length s) (hh : A.handled = none) (hroom : A.depth < recursionLimit) (hB : B ≤ s.heap.objs.size)
    (hQ : ∀ s', (∀ b o, b ≠ C → Stays gb ks b → s.heap.get? b = some o → s'.heap.get? b = some o) → GenOnlyQ g s.gens s'.gens → s'.drawn = s.drawn → s'.os = s.os → Q none s') :
    wpAny (model prog w) A (pyNext (.ref a)) Q E s := by
  obtain ⟨hg, hl, gs, hgs, hgo⟩ := x
  rw [Nat.sub_self] at hgo
  refine next_gen (P := fun n s₀ s₁ => n = 0 ∧ GKept C gb ks s₀ s₁) hh hl hroom hg hgs (hgo _ (fun _ _ _ _ e => e) hB) (fun v s₁ gs' hb hv => ?_) (fun s₁ hp h' hk => ?_)
  · obtain ⟨_, ⟨h₁, tk₁, rfl, hk₁⟩, hkap⟩ := hv
    obtain ⟨h'', hk'', hB''⟩ := heap_grows h₁ B
    exact False.elim (hkap { s with heap := h'' } (fun b o _ _ e => hk'' b o e) hB'')
  · obtain ⟨_, h₁, tk₁, rfl, hk₁⟩ := hp
    exact hQ _ (fun b o hbC hbB e => hk b o (hk₁ b o hbC hbB e)) (.of ((GenOnly.setGen s g .running).trans (GenOnly.setGen _ g .finished)) (setGen_self (gs := .running) (setGen_self hgs)) rfl) rfl rfl
end
end Mine

end
section
open PySem PySem.W PySem.Calls PyProof.Rows
namespace Mine
section
variable {prog : Program} {w : World} {A : Around} {E : Value → Shared → Prop} {s : Shared}

/-- a fresh generator that will hand on the items that pass, whatever list is being filled at Dl by a block at Cc; gb is what stood when it was called -/
def Drains (prog : Program) (w : World) (A : Around) (a : Addr) (g : Nat) (C : Addr) (gb : Heap) (items : Array Value) (pz : Nat → Bool) (s₁ : Shared) : Prop :=
  s₁.heap.IsGen a g ∧ C < a ∧ gb.objs.size ≤ C ∧ (∃ o, gb.get? cStatics = some o) ∧ (∀ b o, gb.get? b = some o → s₁.heap.get? b = some o) ∧
    ∀ Dl s', s₁.heap.objs.size ≤ Dl → (∀ b o, s₁.heap.get? b = some o → s'.heap.get? b = some o) → s'.gens = s₁.gens → GAt prog w A a g C (Dl + 2) (Dl + 1) Dl gb [a, Dl + 1, Dl] items pz 0 s'

/-- ys : the items that pass, as far as they have been handed on -/
def Passed (items : Array Value) (pz : Nat → Bool) (ys : List Value) : Prop := ∀ (t : Nat) (v : Value), ys[t]? = some v → ∃ i, (passing pz items.size 0)[t]? = some i ∧ items[i]? = some v
theorem Passed.nil {items : Array Value} {pz : Nat → Bool} : Passed items pz [] := fun t v h => by simp at h
theorem Passed.snoc {items : Array Value} {pz : Nat → Bool} {ys : List Value} {v : Value} {i : Nat} (x : Passed items pz ys) (h1 : (passing pz items.size 0)[ys.length]? = some i) (h2 : items[i]? = some v) : Passed items pz (ys ++ [v]) := fun t u h => by
  rcases Nat.lt_trichotomy t ys.length with q | q | q
  · exact x t u (by rwa [List.getElem?_append_left q] at h)
  · subst q; simp at h; subst h; exact ⟨i, h1, h2⟩
  · rw [List.getElem?_eq_none (by rw [List.length_append, List.length_singleton]; omega)] at h; cases h

theorem gen_comp {iter : Expr} {x y : Str} {px px' py : Pos} {scope : Scope} {cl : List (Str × Addr)} {pos spos : Pos} {env : Env} {Q : Flow → Shared → Prop} {items : Array Value} {pz : Nat → Bool}
    (hh : A.handled = none) (hroom : A.depth < recursionLimit)
    (hsw : swapsWith (.ListComp (.Name x px') [⟨.Name x px, iter, [], 0⟩] scope pos) (some (.Name y py)) spos.line env = pure true)
    (hclos : closureFor scope env = pure cl) (hcell : ∀ z ∈ scope.names, z.2 ≠ .cell) (hkind : scope.kind = .function)
    (hnames : ∀ z ∈ scope.names, z.2 = .local → scope.names.lookup z.1 = some .local) (hx : scope.names.lookup x = some .local) (hxd : (x == ("__debug__" : Str)) = false)
    (hy : env.kindOf y = some .local) (hp : (env.scope.kind == .class || (env.scope.kind == .module && env.locals != env.globals)) = false) (hsz : items.size ≤ 1000)
    (h : wpAny (model prog w) A (eval iter env) (fun xv s₁ => ∃ a g C gb m, xv = .ref a ∧ Drains prog w A a g C gb items pz s₁ ∧ (∃ o, gb.get? env.locals = some o) ∧ s₁.heap.Ns env.locals m ∧
      (∀ D h' tk gs' ys, s₁.heap.get? D = none → h'.IsList D ys.toArray → h'.PlainList D ys.toArray → Passed items pz ys → ys.length = (passing pz items.size 0).length →
        h'.Ns env.locals (fun z => if z = y then some (.ref D) else m z) → (∀ b o, b ≠ env.locals → gb.get? b = some o → h'.get? b = some o) → GenOnlyQ g s₁.gens gs' →
        Q .next { s₁ with heap := h', toks := tk, gens := gs' })) E s)
    (hs : ∀ x, foldedSetIterable iter env x = pure x := by intro _; rfl) :
    wpAny (model prog w) A (exec (.Assign [.Name y py] (.ListComp (.Name x px') [⟨.Name x px, iter, [], 0⟩] scope pos) spos) env) Q E s := by
  rw [exec_Assign_Name_used _ _ _ _ hsw]
  refine wpAny_bind (wpAny_standAt (wpAny_bind ?_))
  show wpAny _ A (do let _ ← comprehension (.ListComp (.Name x px') [⟨.Name x px, iter, [], 0⟩] scope pos) scope env _ (newList []) false (eval iter env) (some (assign (.Name y py) env))) _ _ s
  refine wpAny_bind (wpAny_mono (wpAny_comprehension_free (use := some (assign (.Name y py) env)) (Q := fun _ s' => Q .next s') rfl hs hclos hkind hnames
    (wpAny_mono h (fun xv s₁ h₁ => ?_) fun _ _ e => e)) (fun _ s' hq => wpAny_pure (wpAny_pure hq)) fun _ _ e => e)
  obtain ⟨a, g, C, gb, m, rfl, ⟨hgen, hCa, hgb, hsts, hgk, hdr⟩, ⟨oL, hoL⟩, hnL, hQ⟩ := h₁
  refine wpAny_pyIter_gen hgen ?_
  refine wpAny_newObj_type (wpAny_newFunctionEnv hcell (by intro y hy; simp at hy) (fun h₁ hns₁ hsb₁ => ?_) hkind)
  dsimp only at hns₁ hsb₁ ⊢
  generalize hD : s₁.heap.objs.size = Dl at hns₁ hsb₁ ⊢
  generalize hH2 : s₁.heap.push { cls := .type "list", dict := none, data := .seq ([] : List Value).toArray } = H2 at hns₁ hsb₁ ⊢
  have hC : H2.objs.size = Dl + 1 := by rw [← hH2, Heap.size_push, hD]
  rw [hC] at hns₁ hsb₁ ⊢
  have old : ∀ b o, s₁.heap.get? b = some o → h₁.get? b = some o := fun b o e =>
    hsb₁.extBut b o (Nat.ne_of_lt (Nat.lt_succ_of_lt (hD ▸ Heap.lt_size e))) (Heap.get?_push_of_some _ (hH2 ▸ Heap.get?_push_of_some _ e))
  have hacc : h₁.PlainList Dl #[] := ⟨_, hsb₁.extBut _ _ (Nat.ne_of_lt (Nat.lt_succ_self _)) (Heap.get?_push_of_some _ (hH2 ▸ Heap.get?_push_at hD.symm rfl))⟩
  have loop : ∀ s₃ : Shared, s₃ = { s₁ with heap := h₁, toks := s₁.toks + ([] : List (Str × Value)).length } →
      codeAny (model prog w) A (.compLoop (.ListComp (.Name x px') [⟨.Name x px, iter, [], 0⟩] scope pos) 0 (.ref a) (.ref Dl) (compEnvC scope cl (Dl + 1) env))
        (compPost (model prog w) A E (some (assign (.Name y py) env)) (fun _ s' => Q .next s') (.ref Dl) (Dl + 1)) s₃ := by
    rintro s₃ rfl
    have lows : s₁.heap.objs.size ≤ Dl := Nat.le_of_eq hD
    have haD : a < Dl := by obtain ⟨_, _, _, e, _⟩ := hgen; exact hD ▸ Heap.lt_size e
    have hCD : C < Dl := Nat.lt_trans hCa haD
    have hgC : ∀ b o, gb.get? b = some o → b < C := fun b o e => Nat.lt_of_lt_of_le (Heap.lt_size e) hgb
    have hsC : cStatics < C := let ⟨o, e⟩ := hsts; hgC _ o e
    have hsD : cStatics < Dl := Nat.lt_trans hsC hCD
    have inA : Stays gb [a, Dl + 1, Dl] a := .inl (.head _)
    have inC : Stays gb [a, Dl + 1, Dl] (Dl + 1) := .inl (.tail _ (.head _))
    have inD : Stays gb [a, Dl + 1, Dl] Dl := .inl (.tail _ (.tail _ (.head _)))
    have nD : ∀ b : Nat, b < Dl → b ≠ Dl + 1 ∧ b ≠ Dl ∧ b < Dl + 2 := fun b hb => ⟨by omega, by omega, by omega⟩
    have hpe : ((compEnvC scope cl (Dl + 1) env).scope.kind == .class || ((compEnvC scope cl (Dl + 1) env).scope.kind == .module && (compEnvC scope cl (Dl + 1) env).locals != (compEnvC scope cl (Dl + 1) env).globals)) = false := by simp [compEnvC, relabel, hkind]
    have hxk : (compEnvC scope cl (Dl + 1) env).kindOf x = some .local := lookup_relabel_local hx
    refine codeAny_compLoop_tests
      (fun k s' => ∃ h' tk gs' ys m', s' = { s₁ with heap := h', toks := tk, gens := gs' } ∧ ys.length ≤ (passing pz items.size 0).length ∧ k = (passing pz items.size 0).length + 1 - ys.length ∧ Passed items pz ys ∧ GAt prog w A a g C (Dl + 2) (Dl + 1) Dl gb [a, Dl + 1, Dl] items pz ys.length s' ∧
        h'.PlainList Dl ys.toArray ∧ h'.Ns (Dl + 1) m' ∧ (∀ b o, gb.get? b = some o → h'.get? b = some o) ∧ GenOnlyQ g s₁.gens gs') ?_ ((passing pz items.size 0).length + 1)
      ⟨h₁, _, s₁.gens, [], _, rfl, Nat.zero_le _, rfl, Passed.nil, hdr Dl _ lows old rfl, hacc, hns₁, fun b o e => old b o (hgk b o e), .inl rfl⟩
    rintro k s' ⟨h', tk, gs', ys, m', rfl, hle, rfl, hpa, hat, hl', hn', hk', hg'⟩
    have hB : Dl + 2 ≤ h'.objs.size := hn'.lt
    by_cases hlt : ys.length < (passing pz items.size 0).length
    · refine hat.item hh hroom hlt ⟨Ne.symm (Nat.ne_of_lt hCa), inA⟩ ⟨Nat.ne_of_lt hsC, .inr hsts⟩ hB fun v s'' i hi hv hat'' hk'' hg'' hdw hos => ?_
      obtain ⟨h'', gs'', dr'', tk'', os''⟩ := s''
      dsimp only at hdw hos hk'' hg'' hat''
      subst hdw hos
      refine wpAny_assign_Name (wpAny_storeName_local hxk (hn'.at' fun o e => hk'' _ o (Ne.symm (Nat.ne_of_lt (Nat.lt_succ_of_lt hCD))) inC e) (fun h₂ hn₂ hs₂ => ?_) hpe)
      refine wpAny_tests_nil ?_
      simp only [if_true]
      refine wpAny_Name (wpAny_loadName_local (v := v) (by simp [compEnvC, relabel, hkind]) hxk hn₂ (by simp) ?_) hxd
      have hl'' : h''.PlainList Dl ys.toArray := hl'.at fun o e => hk'' Dl o (Ne.symm (Nat.ne_of_lt hCD)) inD e
      have hl₂ : h₂.PlainList Dl ys.toArray := hl''.at fun o e => hs₂.extBut Dl o (Nat.ne_of_lt (Nat.lt_succ_self _)) e
      have hlen : (passing pz items.size 0).length ≤ items.size := by
        unfold passing
        refine Nat.le_trans (List.length_filter_le _ _) ?_
        simp
      refine wpAny_list_append_plain (hsz := by rw [List.size_toArray, sizeLine_eq]; omega) hl₂ fun h₅ hl₅ hs₅ => ?_
      refine ⟨_, ?_, h₅, _, gs'', ys ++ [v], _, rfl, ?_, rfl, hpa.snoc hi hv, ?_, ?_, hn₂.sameBut hs₅ (Ne.symm (Nat.ne_of_lt (Nat.lt_succ_self _))), fun b o e => ?_, hg'.trans hg''⟩
      · rw [List.length_append, List.length_singleton]; omega
      · rw [List.length_append, List.length_singleton]; omega
      · rw [List.length_append, List.length_singleton]
        exact hat''.frame ⟨(nD a haD).1, (nD a haD).2.1⟩ ⟨(nD _ hsD).1, (nD _ hsD).2.1⟩ fun b o h1 h2 e => hs₅.extBut b o h2 (hs₂.extBut b o h1 e)
      · have : (ys ++ [v]).toArray = ys.toArray.push v := by simp
        rw [this]; exact hl₅
      · have hbD : b < Dl := Nat.lt_trans (hgC b o e) hCD
        exact hs₅.extBut b o (Nat.ne_of_lt hbD) (hs₂.extBut b o (nD b hbD).1 (hk'' b o (Nat.ne_of_lt (hgC b o e)) (.inr ⟨o, e⟩) (hk' b o e)))
    · have hend : ys.length = (passing pz items.size 0).length := by omega
      rw [hend] at hat
      refine hat.done hh hroom hB fun s'' hk'' hg'' hdw hos => ?_
      obtain ⟨h'', gs'', dr'', tk'', os''⟩ := s''
      dsimp only at hdw hos hk'' hg''
      subst hdw hos
      have hLC : env.locals < C := hgC _ _ hoL
      have hLD : env.locals < Dl := Nat.lt_trans hLC hCD
      have hup : ∀ b o, gb.get? b = some o → h''.get? b = some o := fun b o e => hk'' b o (Nat.ne_of_lt (hgC b o e)) (.inr ⟨o, e⟩) (hk' b o e)
      have hoL' : s₁.heap.get? env.locals = some oL := hgk _ _ hoL
      show wpAny _ A (assign (.Name y py) env (.ref Dl)) _ _ _
      refine wpAny_assign_Name (wpAny_storeName_local hy (hnL.at' fun o e => by rw [hoL'] at e; cases e; exact hup _ _ hoL) (fun h₂ hn₂ hs₂ => ?_) hp)
      have hnC : h''.Ns (Dl + 1) m' := hn'.at' fun o e => hk'' _ o (Ne.symm (Nat.ne_of_lt (Nat.lt_succ_of_lt hCD))) inC e
      refine ⟨m', hnC.sameBut hs₂ (Ne.symm (nD _ hLD).1), fun h₃ hs₃ => ?_⟩
      have hl'' : h₃.PlainList Dl ys.toArray := ((hl'.at fun o e => hk'' Dl o (Ne.symm (Nat.ne_of_lt hCD)) inD e).at fun o e => hs₂.extBut Dl o (Ne.symm (Nat.ne_of_lt hLD)) e).at fun o e => hs₃.extBut Dl o (Nat.ne_of_lt (Nat.lt_succ_self _)) e
      exact hQ Dl h₃ _ gs'' ys (Heap.get?_none_of_le lows) hl''.isList hl'' hpa hend (hn₂.sameBut hs₃ (nD _ hLD).1) (fun b o hbL e =>
        have hbD : b < Dl := Nat.lt_trans (hgC b o e) hCD
        hs₃.extBut b o (nD b hbD).1 (hs₂.extBut b o hbL (hup b o e))) (hg'.trans hg'')
  exact codeAny_compStart_list (loop _ rfl) (wpAny_pyIter_gen (hgen.keeps old) (loop _ rfl))
end
end Mine

end
section
open PySem PySem.W PySem.Calls PyProof.Rows
namespace Mine
section
variable {prog : Program} {w : World} {A : Around} {E : Value → Shared → Prop} {s : Shared}

/-- a generator function of two arguments is called with None and a list -/
theorem gen_call {f ax : Addr} {o : Obj} {name qual : Str} {params : Arguments} {scope : Scope} {cl : List (Str × Addr)} {dV kV doc pm cdv ct : Value} {an : Option Addr} {x r c : Str} {px py pr fpos : Pos} {pres : List Stmt} {test : Expr} {yp ep ip : Pos} {items : Array Value} {pz : Nat → Bool} {Q : Value → Shared → Prop}
    (hh : A.handled = none) (hd : A.depth ≤ 390) (hu : A.units ≤ 390)
    (ho : s.heap.get? f = some o)
    (hdat : o.data = .func (fnX name qual params [.For (.Name x px) (.Name r pr) (pres ++ [.If test [.Expr (.Yield (some (.Name x py)) yp) ep] [] ip]) [] fpos] scope cl dV kV doc pm an cdv ct))
    (hcd : s.heap.CodeRec cdv qual) (hlim : s.heap.NoLimit) (hlist : s.heap.IsList ax items)
    (hco : scope.isCoroutine = false) (hgen : scope.isGenerator = true) (hkf : scope.kind = .function) (hcell : ∀ z ∈ scope.names, z.2 ≠ .cell)
    (hx : scope.names.lookup x = some .local) (hr : scope.names.lookup r = some .local) (hc : scope.names.lookup c = some .local)
    (hxd : (x == ("__debug__" : Str)) = false) (hrd : (r == ("__debug__" : Str)) = false)
    (hbind : bindArgs (fnX name qual params [.For (.Name x px) (.Name r pr) (pres ++ [.If test [.Expr (.Yield (some (.Name x py)) yp) ep] [] ip]) [] fpos] scope cl dV kV doc pm an cdv ct) ⟨[.none, .ref ax], []⟩ = pure [(c, .none), (r, .ref ax)])
    (T : TurnOk prog w (envX qual scope s.heap.objs.size f cdv cl) x pres test items pz s.heap)
    (hQ : ∀ a C h' tk st, s.heap.objs.size ≤ C → (∀ b o, s.heap.get? b = some o → h'.get? b = some o) → Drains prog w A a s.gens.size C s.heap items pz { s with heap := h', toks := tk, gens := s.gens.push st } → st.bare = true →
      Q (.ref a) { s with heap := h', toks := tk, gens := s.gens.push st }) :
    wpAny (model prog w) A (call (.ref f) [.none, .ref ax]) Q E s := by
  refine wpAny_call ?_
  refine codeAny_call_generator (by simp only [recursionLimit]; omega) ho hdat hco hgen rfl hcd ?_
  rw [hbind]
  refine wpAny_pure (wpAny_newFunctionEnv hcell (fun z hz => ?_) (fun h₁ hn₁ hs₁ => ⟨hlim.fresh _ hs₁, ?_⟩) hkf)
  · rcases List.mem_cons.mp hz with rfl | hz
    · exact hc
    · rw [List.mem_singleton.mp hz]; exact hr
  show Q _ _
  dsimp only at hn₁ hs₁ ⊢
  generalize hC : s.heap.objs.size = C at hn₁ hs₁ T hQ
  have hsz : h₁.objs.size = C + 1 := by rw [hs₁.1, Heap.size_push, hC]
  have keep₁ : ∀ b o, s.heap.get? b = some o → h₁.get? b = some o := fun b o e => hs₁.extBut b o (Nat.ne_of_lt (hC ▸ Heap.lt_size e)) (Heap.get?_push_of_some _ e)
  generalize hG : ({ cls := .type "generator", data := .fields #[.int (s.gens.size) 0, .str name (s.toks + [(c, Value.none), (r, Value.ref ax)].length), .str qual (s.toks + [(c, Value.none), (r, Value.ref ax)].length + 1)] } : Obj) = G
  have keep : ∀ b o, s.heap.get? b = some o → (h₁.push G).get? b = some o := fun b o e => Heap.get?_push_of_some _ (keep₁ b o e)
  have hG' : (h₁.push G).get? (C + 1) = some G := Heap.get?_push_at hsz.symm (by rw [← hG]; rfl)
  have hst : ∃ o, s.heap.get? cStatics = some o := let ⟨_, ⟨o, _, _, e, _⟩, _⟩ := hlim; ⟨o, e⟩
  rw [hsz]
  refine hQ (C + 1) C (h₁.push G) _ _ (Nat.le_refl _) keep ⟨⟨G, _, _, hG', by rw [← hG], by rw [← hG], by rw [← hG]⟩, Nat.lt_succ_self _, Nat.le_of_eq hC, hst, keep, fun Dl s' hDl hk hg => ?_⟩ rfl
  have hDl' : C + 2 ≤ Dl := by have : (h₁.push G).objs.size ≤ Dl := hDl; rw [Heap.size_push, hsz] at this; exact this
  dsimp only at hk hg
  refine ⟨⟨G, _, _, hk _ _ hG', by rw [← hG], by rw [← hG], by rw [← hG]⟩, (hlim.keeps keep).keeps hk, .fresh _, by rw [hg]; exact Array.getElem?_push_size .., fun s'' hal hB => ?_⟩
  refine ⟨rfl, ?_⟩
  rw [Nat.sub_zero]
  have hlow : ∀ b o, (h₁.push G).get? b = some o → b ≠ Dl + 1 ∧ b ≠ Dl := fun b o e => by
    have : b < C + 2 := by have := Heap.lt_size e; rw [Heap.size_push, hsz] at this; exact this
    exact ⟨Nat.ne_of_lt (Nat.lt_of_lt_of_le this (Nat.le_succ_of_le hDl')), Nat.ne_of_lt (Nat.lt_of_lt_of_le this hDl')⟩
  have hal' : ∀ b o, (h₁.push G).get? b = some o → s''.heap.get? b = some o := fun b o e => hal b o (hlow b o e).1 (hlow b o e).2 (hk b o e)
  refine seg_gStart (env := envX qual scope C f cdv cl) (gb := s.heap) (ks := [C + 1, Dl + 1, Dl]) (A := A.in1) (r := r) (m := fun z => ([(c, Value.none), (r, Value.ref ax)] : List (Str × Value)).reverse.lookup z) hh (by show A.depth ≤ 400; omega) (by show A.units + 1 ≤ 400; omega) hx hr hkf hco ?_ hxd hrd ?_ ⟨Nat.lt_succ_self _, Nat.lt_succ_of_lt (Nat.lt_succ_self _)⟩ ⟨?_, ?_⟩ (Nat.le_of_eq hC) (fun b hb => ?_) hlist T s'' s'' ?_ ?_ (GKept.refl _ _ _ _) (fun b o e => hal' b o (keep b o e)) hB
  · unfold interactive
    show (scope.kind == .module && _) = false
    rw [hkf]; rfl
  · show @LT.lt Nat _ C (Dl + 2); omega
  · show @LT.lt Nat _ C (Dl + 1); omega
  · show @LT.lt Nat _ C Dl; omega
  · show @LT.lt Nat _ C b ∧ @LT.lt Nat _ b (Dl + 2)
    rcases List.mem_cons.mp hb with rfl | hb
    · omega
    · rcases List.mem_cons.mp hb with rfl | hb
      · omega
      · rw [List.mem_singleton.mp hb]; omega
  · exact (hn₁.push G).at' fun o e => hal' _ o e
  · simp
end
end Mine

end
section
open PySem PySem.W PySem.Calls PyProof.Rows
namespace Mine
/-- the eight names of the law -/
def nameOf : Nat → Str
  | 0 => "a" | 1 => "b" | 2 => "{x}a" | 3 => "{x}b" | 4 => "{y}a" | 5 => "ba" | _ => "{y}ba"
def IsName (k : Nat) (v : Value) : Prop := (k < 7 ∧ ∃ t, v = .str (nameOf k) t) ∨ (k = 7 ∧ ∃ t, v = .int 5 t)
/-- which names a mark takes -/
def pass : Nat → Nat → Bool
  | 0, k => k != 7
  | 1, k => k == 0 || k == 1 || k == 5
  | 2, k => k == 0 || k == 2 || k == 4
  | 3, k => k == 5 || k == 6
  | 4, k => k == 2 || k == 3
  | _, k => k == 4 || k == 6
structure Things (h : Heap) (ax : Addr) (items : Array Value) (ks : List Nat) : Prop where
  list : h.IsList ax items
  plain : h.PlainList ax items
  size : items.size = ks.length
  at' : ∀ (i : Nat) (v : Value), items[i]? = some v → ∃ (a d : Addr) (u : Value) (k : Nat), v = Value.ref a ∧ ThingAt h a d u ∧ ks[i]? = some k ∧ IsName k u
theorem ThingAt.keep {h h' : Heap} {a d : Addr} {v : Value} (x : ThingAt h a d v) (k : ∀ b o, (b = a ∨ b = d) → h.get? b = some o → h'.get? b = some o) : ThingAt h' a d v :=
  let ⟨o, fd, e, c1, c2, c3, n⟩ := x; ⟨o, fd, k _ _ (.inl rfl) e, c1, c2, c3, n.at' fun o e => k _ o (.inr rfl) e⟩
section
variable {M : Model} {A : Around} {α : Type} {Q : α → Shared → Prop} {E : Value → Shared → Prop} {s : Shared} {t : Sem α}
theorem from_A0 (h : wpAny M A0 t Q E s) (h1 : A.handled = none) (h2 : A.depth ≤ 500) (h3 : A.units ≤ 500) : wpAny M A t Q E s := fun Γ p hΓ =>
  h Γ p ⟨hΓ.1.trans h1, Nat.le_trans hΓ.2.1 h2, fun l hl => (by cases hl), fun g hg => (by cases hg), Nat.le_trans hΓ.2.2.2.2 h3⟩
end
section
variable {prog : Program} {w : World} {A : Around} {E : Value → Shared → Prop} {s : Shared} {h₀ : Heap} {L a : Addr} {m : Str → Option Value} {news : List (Addr × Obj)} {Q : Value → Shared → Prop} {x : Str} {c : Addr} {o : Obj} {v : Value}
  {cn : Str} {cs : Scope} {ccd : Value} {cl : List (Str × Addr)} {pos : Pos}
theorem name_FB (F : Fr h₀ L s.heap m) (hc : cl.lookup x = some c) (ho : h₀.get? c = some o) (hd : o.data = .cell (some v)) (h : Q v s)
    (hk : cs.kind = .function := by rfl) (hx : (envX cn cs L a ccd cl).kindOf x = some .free := by rfl) (hb : (x == ("__debug__" : Str)) = false := by decide) (hn : (x == ("__classdict__" : Str)) = false := by decide) :
    wpAny (model prog w) A (eval (.Name x pos) (envX cn cs L a ccd cl)) Q E s := wpAny_Name (wpAny_loadName_free hk hx hc ⟨o, F.keep _ _ ho, hd⟩ h hn) hb
theorem tag_B {d : Addr} {expr : Bool} (F : Fr h₀ L s.heap m) (T : ThingAt h₀ a d v) (hv : handedOut v = pure v) (h : Q v { s with toks := s.toks + 1 }) :
    wpAny (model prog w) A (getAttr (.ref a) "tag" expr) Q E s :=
  let ⟨_, _, e, c1, c2, c3, n⟩ := T.keep fun b o _ e => F.keep b o e
  fn_getAttr e c1 c2 c3 n (by rfl) hv h
theorem sub_sn {value slice : Expr} {x : Str} {t ui : Tok} {i : Int} {q : Addr} (FF : Fr h₀ L s.heap m) (hq : h₀.get? q = some (sliceObj (.int i ui) .none))
    (h : ∀ t' k, Q (.str (Txt.slice x (some i) none) t') { s with toks := k })
    (hs : subscripted slice false (.str x t) (.ref q) = operate [.str x t, .ref q] (getItem (.str x t) (.ref q)) := by with_unfolding_all rfl)
    (ht : ∀ r, letTemporaryGo value (.str x t) r = pure () := by intro _; with_unfolding_all rfl) (hsz : x.length ≤ sizeLine := by size_fits) :
    wpAny (model prog w) A (subscriptTail value slice (.str x t) (.ref q)) Q E s :=
  tail_of_ItemOn ⟨"str", _, PySem.F.slot_str_getitem.lookup, typeIs_str _ _ _, wpAny_getItem_str_slice (l := some (i, ui)) (u := none) (st := none) ⟨_, FF.keep _ _ hq, rfl, rfl⟩ rfl
    (post_val_or_str ⟨Nat.le_trans (Txt.slice_le x _ _) hsz, fun t' k => h t' k⟩)⟩ hs ht
theorem sub_ns {value slice : Expr} {x : Str} {t ui : Tok} {i : Int} {q : Addr} (FF : Fr h₀ L s.heap m) (hq : h₀.get? q = some (sliceObj .none (.int i ui)))
    (h : ∀ t' k, Q (.str (Txt.slice x none (some i)) t') { s with toks := k })
    (hs : subscripted slice false (.str x t) (.ref q) = operate [.str x t, .ref q] (getItem (.str x t) (.ref q)) := by with_unfolding_all rfl)
    (ht : ∀ r, letTemporaryGo value (.str x t) r = pure () := by intro _; with_unfolding_all rfl) (hsz : x.length ≤ sizeLine := by size_fits) :
    wpAny (model prog w) A (subscriptTail value slice (.str x t) (.ref q)) Q E s :=
  tail_of_ItemOn ⟨"str", _, PySem.F.slot_str_getitem.lookup, typeIs_str _ _ _, wpAny_getItem_str_slice (l := none) (u := some (i, ui)) (st := none) ⟨_, FF.keep _ _ hq, rfl, rfl⟩ rfl
    (post_val_or_str ⟨Nat.le_trans (Txt.slice_le x _ _) hsz, fun t' k => h t' k⟩)⟩ hs ht

/-- where one turn's test ends -/
def TurnEnd (gb : Heap) (C : Addr) (nx : List (Addr × Obj)) (x : Str) (v : Value) (r : Bool) (s₂ : Shared) (b : Bool) (s₄ : Shared) : Prop :=
  b = r ∧ ∃ h' tk m', s₄ = { s₂ with heap := h', toks := tk } ∧ Fr gb C h' m' ∧ News gb C h' nx ∧ m' x = some v
theorem TurnEnd.mk {gb h' : Heap} {C : Addr} {nx : List (Addr × Obj)} {r b : Bool} {s₂ : Shared} {tk : Nat} {m' : Str → Option Value} (hb : b = r) (F : Fr gb C h' m') (N : News gb C h' nx) (hm : m' x = some v) :
    TurnEnd gb C nx x v r s₂ b { s₂ with heap := h', toks := tk } := ⟨hb, h', tk, m', rfl, F, N, hm⟩
/-- one turn's test, walked in the K-walk's way -/
theorem TurnOk.of_K {qual : Str} {scope : Scope} {C f : Addr} {cdv : Value} {pres : List Stmt} {test : Expr} {items : Array Value} {pz : Nat → Bool} {gb : Heap} (hgb : gb.objs.size ≤ C)
    (h : ∀ (E' : Value → Shared → Prop) (s₂ : Shared) (m₂ : Str → Option Value) (nx : List (Addr × Obj)) (i : Nat) (v : Value), items[i]? = some v → Fr gb C s₂.heap (fun y => if y = x then some v else m₂ y) → News gb C s₂.heap nx →
      wpAny (model prog w) A0 (execs pres (envX qual scope C f cdv cl)) (fun fl s₃ => fl = .next ∧ wpAny (model prog w) A0 (isTrue test (envX qual scope C f cdv cl) (eval test (envX qual scope C f cdv cl)))
        (fun b s₄ => TurnEnd gb C nx x v (pz i) s₂ b s₄) E' s₃) E' s₂) :
    TurnOk prog w (envX qual scope C f cdv cl) x pres test items pz gb := by
  refine ⟨fun A' E' i v s₂ m₂ ext h1 h2 h3 hi hn hm hk he => ?_⟩
  have em : m₂ = fun y => if y = x then some v else m₂ y := funext fun y => by
    by_cases q : y = x
    · rw [if_pos q, q, hm]
    · rw [if_neg q]
  rw [em] at hn
  have N : News gb C s₂.heap (ext.filterMap fun b => (s₂.heap.get? b).map fun o => (b, o)) := fun p hp => by
    obtain ⟨b, hb, e⟩ := List.mem_filterMap.mp hp
    obtain ⟨o, eo, rfl⟩ := Option.map_eq_some_iff.mp e
    exact ⟨eo, Ne.symm (Nat.ne_of_lt (he b hb)), Heap.get?_none_of_le (Nat.le_trans hgb (Nat.le_of_lt (he b hb)))⟩
  refine from_A0 (wpAny_mono (h E' s₂ m₂ _ i v hi ⟨hn, hk, hgb⟩ N) (fun fl s₃ h₃ => ⟨h₃.1, from_A0 (wpAny_mono h₃.2 (fun b s₄ h₄ => ?_) fun _ _ e => e) h1 h2 h3⟩) fun _ _ e => e) h1 h2 h3
  obtain ⟨hb, h', tk, m', rfl, F', N', hm'⟩ := h₄
  refine ⟨hb, h', tk, m', rfl, F'.keep, fun b hb o eo => (N' (b, o) (List.mem_filterMap.mpr ⟨b, hb, by rw [eo]; rfl⟩)).1, F'.ns, hm'⟩
end

section
variable {prog : Program} {w : World}
/-- what a selector of the mark j does with the law's things -/
def Sel (prog : Program) (w : World) (h : Heap) (f : Addr) (j : Nat) : Prop := FnAt f h ∧ ∀ (A : Around) (s : Shared) (ax : Addr) (items : Array Value) (ks : List Nat) (Q : Value → Shared → Prop) (E : Value → Shared → Prop),
  s.heap = h → A.handled = none → A.depth ≤ 390 → A.units ≤ 390 → Things h ax items ks →
  (∀ a C h' tk st, h.objs.size ≤ C → (∀ b o, h.get? b = some o → h'.get? b = some o) → Drains prog w A a s.gens.size C h items (fun i => pass j (ks.getD i 0)) { s with heap := h', toks := tk, gens := s.gens.push st } → st.bare = true →
    Q (.ref a) { s with heap := h', toks := tk, gens := s.gens.push st }) →
  wpAny (model prog w) A (call (.ref f) [.none, .ref ax]) Q E s
end
end Mine

end
section
open PySem PySem.W PySem.Calls PyProof.Rows
namespace Mine
section
variable {prog : Program} {w : World} {A : Around} {s : Shared}
/-- the frame, its cells and what is laid aside, as a ledger over the heap at the call -/
theorem led_cells {L : Addr} {m cm : Str → Option Value} {names : List (Str × NameKind)} {s₁ : Shared} (hid : List (Addr × Obj)) (hh : ∀ p ∈ hid, s.heap.get? p.1 = some p.2) (hL : L = s.heap.objs.size) (hnd : ((cellsFrom 0 names []).map (·.1)).Nodup)
    (x : InCallC s L m (cellsFrom (L + 1) names []) cm s₁) :
    ∃ cells, Fr (hideAll s.heap (hid.map (·.1))) L s₁.heap m ∧ News (hideAll s.heap (hid.map (·.1))) L s₁.heap (cells ++ hid) ∧ CellsAre cm (cellsFrom (L + 1) names []) cells := by
  have gone : ∀ b, s.heap.get? b = none → (hideAll s.heap (hid.map (·.1))).get? b = none := fun b e => by
    by_cases q : ∃ o, (hideAll s.heap (hid.map (·.1))).get? b = some o
    · obtain ⟨o, eo⟩ := q; rw [of_hideAll _ eo] at e; cases e
    · exact Option.eq_none_iff_forall_ne_some.mpr fun o eo => q ⟨o, eo⟩
  have nodup := hnd
  rw [cellsFrom_names names 0 (L + 1) [] [] rfl] at nodup
  obtain ⟨cells, NC, Y⟩ := Cl.news (h := s₁.heap) (cm := cm) (Nat.le_of_eq hL.symm) (cs := cellsFrom (L + 1) names []) fun n c hm => ⟨x.cell n c (lookup_of_mem_nodup nodup hm), x.above n c hm⟩
  have kp := x.toInCall.keep
  refine ⟨cells, ⟨x.toInCall.ns, fun b o e => kp b o (of_hideAll _ e), by rw [hideAll_size]; exact Nat.le_of_eq hL.symm⟩, fun p hp => ?_, Y⟩
  cases List.mem_append.mp hp with
  | inl hc => exact ⟨(NC p hc).1, (NC p hc).2.1, gone _ (NC p hc).2.2⟩
  | inr hc => exact ⟨kp _ _ (hh p hc), fun q => Nat.lt_irrefl _ (hL ▸ q ▸ Heap.lt_size (hh p hc)), hideAll_none _ (List.mem_map_of_mem hc)⟩
/-- a def with cells is entered; `hid` is laid aside -/
theorem call_cells {R : Result → Shared → Prop} {name qual : Str} {params : Arguments} {body : List Stmt} {scope : Scope} {dV kV doc pm cdv ct : Value} {an : Option Addr} {fo : Obj} {f : Addr} {vals : List Value} {binds : List (Str × Value)}
    (hid : List (Addr × Obj)) (hh : ∀ p ∈ hid, s.heap.get? p.1 = some p.2) (hlim : s.heap.NoLimit) (ho : s.heap.get? f = some fo) (hd : fo.data = .func (fnX name qual params body scope [] dV kV doc pm an cdv ct)) (hcd : s.heap.CodeRec cdv qual) (hroom : A.depth < recursionLimit)
    (hb : bindArgs (fnX name qual params body scope [] dV kV doc pm an cdv ct) ⟨vals, []⟩ = pure binds)
    (hkind : ∀ n, ∀ x ∈ binds, scope.names.lookup x.1 = some .local ∨ (scope.names.lookup x.1 = some .cell ∧ ((cellsFrom n scope.names []).lookup x.1).isSome = true)) (hnd : ((cellsFrom 0 scope.names []).map (·.1)).Nodup)
    (h : ∀ L' h₁ tk cells, L' = s.heap.objs.size → Fr (hideAll s.heap (hid.map (·.1))) L' h₁ (bindL (envOfC qual scope L' f cdv).kindOf binds fun _ => none) → News (hideAll s.heap (hid.map (·.1))) L' h₁ (cells ++ hid) →
      CellsAre (bindC (envOfC qual scope L' f cdv).kindOf binds fun _ => none) (cellsFrom (L' + 1) scope.names []) cells → (∀ p ∈ hid, p.1 < L') →
      wpAny (model prog w) (A.deeper (envOfC qual scope L' f cdv)) (execs body (envOfC qual scope L' f cdv)) (fun fl s' => R (.ok (.ret (match fl with | .ret v => v | _ => .none))) s')
        (fun e s' => wpAny (model prog w) (A.deeper (envOfC qual scope L' f cdv)) (leaving (envOfC qual scope L' f cdv) e) (fun _ s'' => R (.error e) s'') (fun e' s'' => R (.error e') s'') s') { s with heap := h₁, toks := tk })
    (hco : scope.isCoroutine = false) (hgen : scope.isGenerator = false) (hk : scope.kind = .function) : codeAny (model prog w) A (.call (.ref f) ⟨vals, []⟩) R s :=
  codeAny_call_cells hroom ho hd hlim hcd rfl hb rfl (hkind _) (fun s₁ x => by
    obtain ⟨cells, F, N, Y⟩ := led_cells hid hh rfl hnd x
    obtain ⟨h₁, tk, rfl⟩ := x.toInCall.same
    exact h _ h₁ tk cells rfl F N Y fun p hp => Heap.lt_size (hh p hp)) hco hgen hk
end

def HasAll (h : Heap) (l : List (Addr × Obj)) : Prop := ∀ p ∈ l, h.get? p.1 = some p.2
theorem HasAll.get {h : Heap} {l : List (Addr × Obj)} {a : Addr} {o : Obj} (x : HasAll h l) (hm : (a, o) ∈ l) : h.get? a = some o := x (a, o) hm
abbrev selQ : Str := "_prepare_tag.<locals>.select"
theorem keep_of_hide23 {H h' : Heap} (k : ∀ b o, (hideAll H [23]).get? b = some o → h'.get? b = some o) : ∀ b x, b ≠ 23 → H.get? b = some x → h'.get? b = some x :=
  fun b x hb e => k b x (hideAll_get [23] e (by simpa using hb))
theorem none_of_hide23 {H : Heap} {f : Nat} (h : (hideAll H [23]).get? f = none) (hf : @LT.lt Nat _ 23 f) : H.get? f = none := by
  cases e : H.get? f with
  | none => rfl
  | some o => rw [hideAll_get [23] e (by simpa using Nat.ne_of_gt hf)] at h; cases h
abbrev BackS (w : World) (s : Shared) (Q : Value → Shared → Prop) (j : Nat) (old : Option Addr) (tab : Addr → Array Value) : Prop := ∀ f h' tk c', (∀ b x, b ≠ 23 → s.heap.get? b = some x → h'.get? b = some x) → h'.get? 23 = some (tabObj (tab c')) → h'.CodeRec (.ref c') selQ → (s.heap.get? c' = none ∨ old = some c') →
  Sel PySem.Challenge.rw_xb0050_01.row.prog w h' f j → Q (.ref f) { s with heap := h', toks := tk }

section
variable {w : World} {p : Program} {loose : List Str} {mean : ExcName → Option Value} {mg mb : Str → Option Value} {s : Shared} {Q : Value → Shared → Prop} {E : Value → Shared → Prop}
local macro_rules | `(tactic| walk_at "eval Name") => `(tactic| (k_here; (with_reducible show wpAny _ _ (eval (Expr.Name (PySem.Str.ofString "slice") _) _) _ _ _); (with_reducible rename Fr _ _ _ _ => kF); k_dflt (refine' nameX_B kF ?k1 ?k2 ?k3 ?k4 ?k5 ?_ ?k6 ?k7 ?k8; (case k6 => rfl); (case k7 => rfl); (case k8 => decide); (case k1 => k_asm); (case k2 => k_asm); (case k3 => k_is); (case k4 => exact boot_slice); (case k5 => decide); k_whole)))
local macro_rules | `(tactic| walk_at "call type:slice") => `(tactic| (k_here; (with_reducible show wpAny _ _ (call (Value.type "slice") [_, _]) _ _ _); k_dflt (refine' call_slice_K ?F ?N ?_; (case F => k_asm); (case N => k_asm)); intro q' h' F' N' l1; (try k_lt l1)))
local macro_rules | `(tactic| walk_at "call builtin:len") => `(tactic| (k_here; (with_reducible show wpAny _ _ (call (Value.builtin "len") [Value.str (PySem.Str.ofString "}a") _]) _ _ _); (refine len_lit (n := 2) (by decide +kernel) (by decide) ?_)))
local macro_rules | `(tactic| walk_at "call builtin:len") => `(tactic| (k_here; (with_reducible show wpAny _ _ (call (Value.builtin "len") [Value.str (PySem.Str.ofString "}ba") _]) _ _ _); (refine len_lit (n := 3) (by decide +kernel) (by decide) ?_)))
local macro_rules | `(tactic| walk_at "call builtin:len") => `(tactic| (k_here; (with_reducible show wpAny _ _ (call (Value.builtin "len") [Value.str (PySem.Str.ofString "{x}") _]) _ _ _); (refine len_lit (n := 3) (by decide +kernel) (by decide) ?_)))
local macro_rules | `(tactic| walk_at "call builtin:len") => `(tactic| (k_here; (with_reducible show wpAny _ _ (call (Value.builtin "len") [Value.str (PySem.Str.ofString "{y}") _]) _ _ _); (refine len_lit (n := 3) (by decide +kernel) (by decide) ?_)))
local macro_rules | `(tactic| walk_at "eval Name") => `(tactic| (k_here; (with_reducible rename HasAll _ _ => G8); k_dflt (refine' name_FB ?F ?hc ?ho ?hd ?_ ?a ?b; (case a => rfl); (case b => rfl); (case F => k_asm); (case hc => rfl); (case ho => exact HasAll.get G8 (by k_mem)); (case hd => assumption); k_whole)))
local macro_rules | `(tactic| walk_at "getAttr ref") => `(tactic| (k_here; (with_reducible rename HasAll _ _ => G8); k_dflt (refine' tag_B ?F ?T ?v ?_; (case F => k_asm); (case T => assumption); (case v => rfl))))
local macro_rules | `(tactic| walk_at "subscriptTail") => `(tactic| (k_here; (with_reducible rename HasAll _ _ => G8); (with_reducible show wpAny _ _ (subscriptTail _ _ (Value.str _ _) (Value.ref _)) _ _ _); k_dflt (refine' sub_sn ?F ?q ?_; (case F => k_asm); (case q => exact HasAll.get G8 (by k_mem))); intro t' k'))
local macro_rules | `(tactic| walk_at "subscriptTail") => `(tactic| (k_here; (with_reducible rename HasAll _ _ => G8); (with_reducible show wpAny _ _ (subscriptTail _ _ (Value.str _ _) (Value.ref _)) _ _ _); k_dflt (refine' sub_ns ?F ?q ?_; (case F => k_asm); (case q => exact HasAll.get G8 (by k_mem))); intro t' k'))

set_option maxHeartbeats 8000000 in
theorem prep_0 (h23 : s.heap.get? 23 = some (tabObj #[])) (T : Top p loose mean mg mb (hideAll s.heap [23])) (C : CodeHd (hideAll s.heap [23]) 27 23) (t1 : Tok)
   (hQ : BackS w s Q 0 none fun c' => #[rawInt 8, rawInt 8, .ref c']) : (hd.heap_39 w.params).In (hideAll s.heap [23]) →
   wpAny (model PySem.Challenge.rw_xb0050_01.row.prog w) A0 (call (.ref 28) [.str (Str.ofString "{*}*") t1]) Q E s := by
  k_fill
  intro X
  refine wpAny_call ?_
  refine call_cells [(23, tabObj #[])] (fun p hp => by rcases List.mem_cons.mp hp with rfl | hp; exact h23; cases hp) (T.nolimit.keeps fun _ _ e => of_hideAll _ e) (of_hideAll _ (X _ _ (by k_is))) rfl (codeRec_of (X.keeps fun _ _ e => of_hideAll _ e) (by k_is)) (by decide)
    rfl (kindsX rfl) (by decide +kernel) (fun L' h₁ tk cells hL F' N' Y' l1 => ?_) rfl rfl rfl
  simp only [List.map_cons, List.map_nil] at F' N'
  (try k_lt l1); k_cells Y'; (try simp only [List.cons_append, List.nil_append] at N'); (try dsimp only)
  k_steps
  all_goals (
    with_reducible rename Fr _ _ _ _ => F9
    with_reducible rename News _ _ _ _ => N9
    refine hQ _ _ _ _ (keep_of_hide23 F9.keep) (N9 (23, _) (by k_dflt k_mem)).1 (codeRec_news (qual := selQ) N9 (.tail _ (.head _)) (by assumption) (by assumption)) (.inl (none_of_hide23 (N9 _ (.tail _ (.head _))).2.2 (by omega))) ?_
    refine ⟨FnAt.of N9 (.head _), ?_⟩
    intro A' s' ax items ks Q' E' hs hh hd hu Th hk
    obtain ⟨hp, g', dr', tk', os'⟩ := s'
    dsimp only at hs hk ⊢
    subst hs
    have G8 : HasAll hp _ := fun p hp => (N9 p hp).1
    refine gen_call (pres := []) (c := "context") hh hd hu (G8.get (.head _)) rfl (codeRec_news (qual := selQ) N9 (.tail _ (.head _)) (by assumption) (by assumption)) (T.nolimit.keeps F9.keep) Th.list rfl rfl rfl (by decide) rfl rfl rfl rfl rfl rfl ?_ hk
    refine TurnOk.of_K (Nat.le_refl _) (fun E' s₂ m₂ nx i v hi F' N' => ?_)
    obtain ⟨a, d, u, k, rfl, hT, hk, hn⟩ := Th.at' i v hi
    clear F9 N9
    dsimp only at F' N'
    have e0 : pass 0 (ks.getD i 0) = pass 0 k := by simp [List.getD, hk]
    rw [e0]
    clear e0 hk Th
    rcases hn with ⟨hlt, t, rfl⟩ | ⟨rfl, t, rfl⟩
    · rcases (by omega : k = 0 ∨ k = 1 ∨ k = 2 ∨ k = 3 ∨ k = 4 ∨ k = 5 ∨ k = 6) with rfl | rfl | rfl | rfl | rfl | rfl | rfl
      all_goals (
        dsimp only [nameOf] at hT
        k_steps
        all_goals (
          with_reducible rename Fr _ _ _ _ => F8
          with_reducible rename News _ _ _ _ => N8
          exact TurnEnd.mk (by first | rfl | decide +kernel) F8 N8 (by first | rfl | simp | (dsimp only; simp))))
    · k_steps
      all_goals (
        with_reducible rename Fr _ _ _ _ => F8
        with_reducible rename News _ _ _ _ => N8
        exact TurnEnd.mk (by first | rfl | decide +kernel) F8 N8 (by first | rfl | simp | (dsimp only; simp))))

set_option maxHeartbeats 8000000 in
theorem prep_1 (c₀ : Addr) (h23 : s.heap.get? 23 = some (tabObj #[rawInt 8, rawInt 8, .ref c₀])) (T : Top p loose mean mg mb (hideAll s.heap [23])) (C : CodeHd (hideAll s.heap [23]) 27 23) (t1 : Tok)
   (hQ : BackS w s Q 1 (some c₀) fun c' => #[rawInt 8, rawInt 8, .ref c₀, rawInt 14, rawInt 8, .ref c']) : (hd.heap_39 w.params).In (hideAll s.heap [23]) →
   wpAny (model PySem.Challenge.rw_xb0050_01.row.prog w) A0 (call (.ref 28) [.str (Str.ofString "{}*") t1]) Q E s := by
  k_fill
  intro X
  refine wpAny_call ?_
  refine call_cells [(23, tabObj #[rawInt 8, rawInt 8, .ref c₀])] (fun p hp => by rcases List.mem_cons.mp hp with rfl | hp; exact h23; cases hp) (T.nolimit.keeps fun _ _ e => of_hideAll _ e) (of_hideAll _ (X _ _ (by k_is))) rfl (codeRec_of (X.keeps fun _ _ e => of_hideAll _ e) (by k_is)) (by decide)
    rfl (kindsX rfl) (by decide +kernel) (fun L' h₁ tk cells hL F' N' Y' l1 => ?_) rfl rfl rfl
  simp only [List.map_cons, List.map_nil] at F' N'
  (try k_lt l1); k_cells Y'; (try simp only [List.cons_append, List.nil_append] at N'); (try dsimp only)
  k_steps
  all_goals (
    with_reducible rename Fr _ _ _ _ => F9
    with_reducible rename News _ _ _ _ => N9
    refine hQ _ _ _ _ (keep_of_hide23 F9.keep) (N9 (23, _) (by k_dflt k_mem)).1 (codeRec_news (qual := selQ) N9 (.tail _ (.head _)) (by assumption) (by assumption)) (.inl (none_of_hide23 (N9 _ (.tail _ (.head _))).2.2 (by omega))) ?_
    refine ⟨FnAt.of N9 (.head _), ?_⟩
    intro A' s' ax items ks Q' E' hs hh hd hu Th hk
    obtain ⟨hp, g', dr', tk', os'⟩ := s'
    dsimp only at hs hk ⊢
    subst hs
    have G8 : HasAll hp _ := fun p hp => (N9 p hp).1
    refine gen_call (pres := [_]) (c := "context") hh hd hu (G8.get (.head _)) rfl (codeRec_news (qual := selQ) N9 (.tail _ (.head _)) (by assumption) (by assumption)) (T.nolimit.keeps F9.keep) Th.list rfl rfl rfl (by decide) rfl rfl rfl rfl rfl rfl ?_ hk
    refine TurnOk.of_K (Nat.le_refl _) (fun E' s₂ m₂ nx i v hi F' N' => ?_)
    obtain ⟨a, d, u, k, rfl, hT, hk, hn⟩ := Th.at' i v hi
    clear F9 N9
    dsimp only at F' N'
    have e0 : pass 1 (ks.getD i 0) = pass 1 k := by simp [List.getD, hk]
    rw [e0]
    clear e0 hk Th
    rcases hn with ⟨hlt, t, rfl⟩ | ⟨rfl, t, rfl⟩
    · rcases (by omega : k = 0 ∨ k = 1 ∨ k = 2 ∨ k = 3 ∨ k = 4 ∨ k = 5 ∨ k = 6) with rfl | rfl | rfl | rfl | rfl | rfl | rfl
      all_goals (
        dsimp only [nameOf] at hT
        k_steps
        all_goals (
          with_reducible rename Fr _ _ _ _ => F8
          with_reducible rename News _ _ _ _ => N8
          exact TurnEnd.mk (by first | rfl | decide +kernel) F8 N8 (by first | rfl | simp | (dsimp only; simp))))
    · k_steps
      all_goals (
        with_reducible rename Fr _ _ _ _ => F8
        with_reducible rename News _ _ _ _ => N8
        exact TurnEnd.mk (by first | rfl | decide +kernel) F8 N8 (by first | rfl | simp | (dsimp only; simp))))

set_option maxHeartbeats 8000000 in
theorem prep_2 (c₀ : Addr) (c₁ : Addr) (h23 : s.heap.get? 23 = some (tabObj #[rawInt 8, rawInt 8, .ref c₀, rawInt 14, rawInt 8, .ref c₁])) (T : Top p loose mean mg mb (hideAll s.heap [23])) (C : CodeHd (hideAll s.heap [23]) 27 23) (t1 : Tok)
   (hQ : BackS w s Q 2 (some c₁) fun c' => #[rawInt 8, rawInt 8, .ref c₀, rawInt 14, rawInt 8, .ref c₁, rawInt 24, rawInt 8, .ref c']) : (hd.heap_39 w.params).In (hideAll s.heap [23]) →
   wpAny (model PySem.Challenge.rw_xb0050_01.row.prog w) A0 (call (.ref 28) [.str (Str.ofString "{*}a") t1]) Q E s := by
  k_fill
  intro X
  refine wpAny_call ?_
  refine call_cells [(23, tabObj #[rawInt 8, rawInt 8, .ref c₀, rawInt 14, rawInt 8, .ref c₁])] (fun p hp => by rcases List.mem_cons.mp hp with rfl | hp; exact h23; cases hp) (T.nolimit.keeps fun _ _ e => of_hideAll _ e) (of_hideAll _ (X _ _ (by k_is))) rfl (codeRec_of (X.keeps fun _ _ e => of_hideAll _ e) (by k_is)) (by decide)
    rfl (kindsX rfl) (by decide +kernel) (fun L' h₁ tk cells hL F' N' Y' l1 => ?_) rfl rfl rfl
  simp only [List.map_cons, List.map_nil] at F' N'
  (try k_lt l1); k_cells Y'; (try simp only [List.cons_append, List.nil_append] at N'); (try dsimp only)
  k_steps
  all_goals (
    with_reducible rename Fr _ _ _ _ => F9
    with_reducible rename News _ _ _ _ => N9
    refine hQ _ _ _ _ (keep_of_hide23 F9.keep) (N9 (23, _) (by k_dflt k_mem)).1 (codeRec_news (qual := selQ) N9 (.tail _ (.head _)) (by assumption) (by assumption)) (.inl (none_of_hide23 (N9 _ (.tail _ (.head _))).2.2 (by omega))) ?_
    refine ⟨FnAt.of N9 (.head _), ?_⟩
    intro A' s' ax items ks Q' E' hs hh hd hu Th hk
    obtain ⟨hp, g', dr', tk', os'⟩ := s'
    dsimp only at hs hk ⊢
    subst hs
    have G8 : HasAll hp _ := fun p hp => (N9 p hp).1
    refine gen_call (pres := [_]) (c := "context") hh hd hu (G8.get (.head _)) rfl (codeRec_news (qual := selQ) N9 (.tail _ (.head _)) (by assumption) (by assumption)) (T.nolimit.keeps F9.keep) Th.list rfl rfl rfl (by decide) rfl rfl rfl rfl rfl rfl ?_ hk
    refine TurnOk.of_K (Nat.le_refl _) (fun E' s₂ m₂ nx i v hi F' N' => ?_)
    obtain ⟨a, d, u, k, rfl, hT, hk, hn⟩ := Th.at' i v hi
    clear F9 N9
    dsimp only at F' N'
    have e0 : pass 2 (ks.getD i 0) = pass 2 k := by simp [List.getD, hk]
    rw [e0]
    clear e0 hk Th
    rcases hn with ⟨hlt, t, rfl⟩ | ⟨rfl, t, rfl⟩
    · rcases (by omega : k = 0 ∨ k = 1 ∨ k = 2 ∨ k = 3 ∨ k = 4 ∨ k = 5 ∨ k = 6) with rfl | rfl | rfl | rfl | rfl | rfl | rfl
      all_goals (
        dsimp only [nameOf] at hT
        k_steps
        all_goals (
          with_reducible rename Fr _ _ _ _ => F8
          with_reducible rename News _ _ _ _ => N8
          exact TurnEnd.mk (by first | rfl | decide +kernel) F8 N8 (by first | rfl | simp | (dsimp only; simp))))
    · k_steps
      all_goals (
        with_reducible rename Fr _ _ _ _ => F8
        with_reducible rename News _ _ _ _ => N8
        exact TurnEnd.mk (by first | rfl | decide +kernel) F8 N8 (by first | rfl | simp | (dsimp only; simp))))

set_option maxHeartbeats 8000000 in
theorem prep_3 (c₀ : Addr) (c₁ : Addr) (c₂ : Addr) (h23 : s.heap.get? 23 = some (tabObj #[rawInt 8, rawInt 8, .ref c₀, rawInt 14, rawInt 8, .ref c₁, rawInt 24, rawInt 8, .ref c₂])) (T : Top p loose mean mg mb (hideAll s.heap [23])) (C : CodeHd (hideAll s.heap [23]) 27 23) (hc : (hideAll s.heap [23]).CodeRec (.ref c₂) selQ) (t1 : Tok)
   (hQ : BackS w s Q 3 (some c₂) fun c' => #[rawInt 8, rawInt 8, .ref c₀, rawInt 14, rawInt 8, .ref c₁, rawInt 24, rawInt 8, .ref c₂]) : (hd.heap_39 w.params).In (hideAll s.heap [23]) →
   wpAny (model PySem.Challenge.rw_xb0050_01.row.prog w) A0 (call (.ref 28) [.str (Str.ofString "{*}ba") t1]) Q E s := by
  k_fill
  intro X
  refine wpAny_call ?_
  refine call_cells [(23, tabObj #[rawInt 8, rawInt 8, .ref c₀, rawInt 14, rawInt 8, .ref c₁, rawInt 24, rawInt 8, .ref c₂])] (fun p hp => by rcases List.mem_cons.mp hp with rfl | hp; exact h23; cases hp) (T.nolimit.keeps fun _ _ e => of_hideAll _ e) (of_hideAll _ (X _ _ (by k_is))) rfl (codeRec_of (X.keeps fun _ _ e => of_hideAll _ e) (by k_is)) (by decide)
    rfl (kindsX rfl) (by decide +kernel) (fun L' h₁ tk cells hL F' N' Y' l1 => ?_) rfl rfl rfl
  simp only [List.map_cons, List.map_nil] at F' N'
  (try k_lt l1); k_cells Y'; (try simp only [List.cons_append, List.nil_append] at N'); (try dsimp only)
  k_steps
  all_goals (
    with_reducible rename Fr _ _ _ _ => F9
    with_reducible rename News _ _ _ _ => N9
    refine hQ _ _ _ _ (keep_of_hide23 F9.keep) (N9 (23, _) (by k_dflt k_mem)).1 (hc.keeps F9.keep) (.inr rfl) ?_
    refine ⟨FnAt.of N9 (.head _), ?_⟩
    intro A' s' ax items ks Q' E' hs hh hd hu Th hk
    obtain ⟨hp, g', dr', tk', os'⟩ := s'
    dsimp only at hs hk ⊢
    subst hs
    have G8 : HasAll hp _ := fun p hp => (N9 p hp).1
    refine gen_call (pres := [_]) (c := "context") hh hd hu (G8.get (.head _)) rfl (hc.keeps F9.keep) (T.nolimit.keeps F9.keep) Th.list rfl rfl rfl (by decide) rfl rfl rfl rfl rfl rfl ?_ hk
    refine TurnOk.of_K (Nat.le_refl _) (fun E' s₂ m₂ nx i v hi F' N' => ?_)
    obtain ⟨a, d, u, k, rfl, hT, hk, hn⟩ := Th.at' i v hi
    clear F9 N9
    dsimp only at F' N'
    have e0 : pass 3 (ks.getD i 0) = pass 3 k := by simp [List.getD, hk]
    rw [e0]
    clear e0 hk Th
    rcases hn with ⟨hlt, t, rfl⟩ | ⟨rfl, t, rfl⟩
    · rcases (by omega : k = 0 ∨ k = 1 ∨ k = 2 ∨ k = 3 ∨ k = 4 ∨ k = 5 ∨ k = 6) with rfl | rfl | rfl | rfl | rfl | rfl | rfl
      all_goals (
        dsimp only [nameOf] at hT
        k_steps
        all_goals (
          with_reducible rename Fr _ _ _ _ => F8
          with_reducible rename News _ _ _ _ => N8
          exact TurnEnd.mk (by first | rfl | decide +kernel) F8 N8 (by first | rfl | simp | (dsimp only; simp))))
    · k_steps
      all_goals (
        with_reducible rename Fr _ _ _ _ => F8
        with_reducible rename News _ _ _ _ => N8
        exact TurnEnd.mk (by first | rfl | decide +kernel) F8 N8 (by first | rfl | simp | (dsimp only; simp))))

set_option maxHeartbeats 8000000 in
theorem prep_4 (c₀ : Addr) (c₁ : Addr) (c₂ : Addr) (h23 : s.heap.get? 23 = some (tabObj #[rawInt 8, rawInt 8, .ref c₀, rawInt 14, rawInt 8, .ref c₁, rawInt 24, rawInt 8, .ref c₂])) (T : Top p loose mean mg mb (hideAll s.heap [23])) (C : CodeHd (hideAll s.heap [23]) 27 23) (t1 : Tok)
   (hQ : BackS w s Q 4 (some c₂) fun c' => #[rawInt 8, rawInt 8, .ref c₀, rawInt 14, rawInt 8, .ref c₁, rawInt 24, rawInt 8, .ref c₂, rawInt 33, rawInt 8, .ref c']) : (hd.heap_39 w.params).In (hideAll s.heap [23]) →
   wpAny (model PySem.Challenge.rw_xb0050_01.row.prog w) A0 (call (.ref 28) [.str (Str.ofString "{x}*") t1]) Q E s := by
  k_fill
  intro X
  refine wpAny_call ?_
  refine call_cells [(23, tabObj #[rawInt 8, rawInt 8, .ref c₀, rawInt 14, rawInt 8, .ref c₁, rawInt 24, rawInt 8, .ref c₂])] (fun p hp => by rcases List.mem_cons.mp hp with rfl | hp; exact h23; cases hp) (T.nolimit.keeps fun _ _ e => of_hideAll _ e) (of_hideAll _ (X _ _ (by k_is))) rfl (codeRec_of (X.keeps fun _ _ e => of_hideAll _ e) (by k_is)) (by decide)
    rfl (kindsX rfl) (by decide +kernel) (fun L' h₁ tk cells hL F' N' Y' l1 => ?_) rfl rfl rfl
  simp only [List.map_cons, List.map_nil] at F' N'
  (try k_lt l1); k_cells Y'; (try simp only [List.cons_append, List.nil_append] at N'); (try dsimp only)
  k_steps
  all_goals (
    with_reducible rename Fr _ _ _ _ => F9
    with_reducible rename News _ _ _ _ => N9
    refine hQ _ _ _ _ (keep_of_hide23 F9.keep) (N9 (23, _) (by k_dflt k_mem)).1 (codeRec_news (qual := selQ) N9 (.tail _ (.head _)) (by assumption) (by assumption)) (.inl (none_of_hide23 (N9 _ (.tail _ (.head _))).2.2 (by omega))) ?_
    refine ⟨FnAt.of N9 (.head _), ?_⟩
    intro A' s' ax items ks Q' E' hs hh hd hu Th hk
    obtain ⟨hp, g', dr', tk', os'⟩ := s'
    dsimp only at hs hk ⊢
    subst hs
    have G8 : HasAll hp _ := fun p hp => (N9 p hp).1
    refine gen_call (pres := [_]) (c := "context") hh hd hu (G8.get (.head _)) rfl (codeRec_news (qual := selQ) N9 (.tail _ (.head _)) (by assumption) (by assumption)) (T.nolimit.keeps F9.keep) Th.list rfl rfl rfl (by decide) rfl rfl rfl rfl rfl rfl ?_ hk
    refine TurnOk.of_K (Nat.le_refl _) (fun E' s₂ m₂ nx i v hi F' N' => ?_)
    obtain ⟨a, d, u, k, rfl, hT, hk, hn⟩ := Th.at' i v hi
    clear F9 N9
    dsimp only at F' N'
    have e0 : pass 4 (ks.getD i 0) = pass 4 k := by simp [List.getD, hk]
    rw [e0]
    clear e0 hk Th
    rcases hn with ⟨hlt, t, rfl⟩ | ⟨rfl, t, rfl⟩
    · rcases (by omega : k = 0 ∨ k = 1 ∨ k = 2 ∨ k = 3 ∨ k = 4 ∨ k = 5 ∨ k = 6) with rfl | rfl | rfl | rfl | rfl | rfl | rfl
      all_goals (
        dsimp only [nameOf] at hT
        k_steps
        all_goals (
          with_reducible rename Fr _ _ _ _ => F8
          with_reducible rename News _ _ _ _ => N8
          exact TurnEnd.mk (by first | rfl | decide +kernel) F8 N8 (by first | rfl | simp | (dsimp only; simp))))
    · k_steps
      all_goals (
        with_reducible rename Fr _ _ _ _ => F8
        with_reducible rename News _ _ _ _ => N8
        exact TurnEnd.mk (by first | rfl | decide +kernel) F8 N8 (by first | rfl | simp | (dsimp only; simp))))

set_option maxHeartbeats 8000000 in
theorem prep_5 (c₀ : Addr) (c₁ : Addr) (c₂ : Addr) (c₃ : Addr) (h23 : s.heap.get? 23 = some (tabObj #[rawInt 8, rawInt 8, .ref c₀, rawInt 14, rawInt 8, .ref c₁, rawInt 24, rawInt 8, .ref c₂, rawInt 33, rawInt 8, .ref c₃])) (T : Top p loose mean mg mb (hideAll s.heap [23])) (C : CodeHd (hideAll s.heap [23]) 27 23) (hc : (hideAll s.heap [23]).CodeRec (.ref c₃) selQ) (t1 : Tok)
   (hQ : BackS w s Q 5 (some c₃) fun c' => #[rawInt 8, rawInt 8, .ref c₀, rawInt 14, rawInt 8, .ref c₁, rawInt 24, rawInt 8, .ref c₂, rawInt 33, rawInt 8, .ref c₃]) : (hd.heap_39 w.params).In (hideAll s.heap [23]) →
   wpAny (model PySem.Challenge.rw_xb0050_01.row.prog w) A0 (call (.ref 28) [.str (Str.ofString "{y}*") t1]) Q E s := by
  k_fill
  intro X
  refine wpAny_call ?_
  refine call_cells [(23, tabObj #[rawInt 8, rawInt 8, .ref c₀, rawInt 14, rawInt 8, .ref c₁, rawInt 24, rawInt 8, .ref c₂, rawInt 33, rawInt 8, .ref c₃])] (fun p hp => by rcases List.mem_cons.mp hp with rfl | hp; exact h23; cases hp) (T.nolimit.keeps fun _ _ e => of_hideAll _ e) (of_hideAll _ (X _ _ (by k_is))) rfl (codeRec_of (X.keeps fun _ _ e => of_hideAll _ e) (by k_is)) (by decide)
    rfl (kindsX rfl) (by decide +kernel) (fun L' h₁ tk cells hL F' N' Y' l1 => ?_) rfl rfl rfl
  simp only [List.map_cons, List.map_nil] at F' N'
  (try k_lt l1); k_cells Y'; (try simp only [List.cons_append, List.nil_append] at N'); (try dsimp only)
  k_steps
  all_goals (
    with_reducible rename Fr _ _ _ _ => F9
    with_reducible rename News _ _ _ _ => N9
    refine hQ _ _ _ _ (keep_of_hide23 F9.keep) (N9 (23, _) (by k_dflt k_mem)).1 (hc.keeps F9.keep) (.inr rfl) ?_
    refine ⟨FnAt.of N9 (.head _), ?_⟩
    intro A' s' ax items ks Q' E' hs hh hd hu Th hk
    obtain ⟨hp, g', dr', tk', os'⟩ := s'
    dsimp only at hs hk ⊢
    subst hs
    have G8 : HasAll hp _ := fun p hp => (N9 p hp).1
    refine gen_call (pres := [_]) (c := "context") hh hd hu (G8.get (.head _)) rfl (hc.keeps F9.keep) (T.nolimit.keeps F9.keep) Th.list rfl rfl rfl (by decide) rfl rfl rfl rfl rfl rfl ?_ hk
    refine TurnOk.of_K (Nat.le_refl _) (fun E' s₂ m₂ nx i v hi F' N' => ?_)
    obtain ⟨a, d, u, k, rfl, hT, hk, hn⟩ := Th.at' i v hi
    clear F9 N9
    dsimp only at F' N'
    have e0 : pass 5 (ks.getD i 0) = pass 5 k := by simp [List.getD, hk]
    rw [e0]
    clear e0 hk Th
    rcases hn with ⟨hlt, t, rfl⟩ | ⟨rfl, t, rfl⟩
    · rcases (by omega : k = 0 ∨ k = 1 ∨ k = 2 ∨ k = 3 ∨ k = 4 ∨ k = 5 ∨ k = 6) with rfl | rfl | rfl | rfl | rfl | rfl | rfl
      all_goals (
        dsimp only [nameOf] at hT
        k_steps
        all_goals (
          with_reducible rename Fr _ _ _ _ => F8
          with_reducible rename News _ _ _ _ => N8
          exact TurnEnd.mk (by first | rfl | decide +kernel) F8 N8 (by first | rfl | simp | (dsimp only; simp))))
    · k_steps
      all_goals (
        with_reducible rename Fr _ _ _ _ => F8
        with_reducible rename News _ _ _ _ => N8
        exact TurnEnd.mk (by first | rfl | decide +kernel) F8 N8 (by first | rfl | simp | (dsimp only; simp))))
end
end Mine

end
section
open PySem PySem.W PySem.Calls PyProof.Rows
namespace Mine
section
variable {prog : Program} {w : World} {A : Around} {E : Value → Shared → Prop} {s : Shared}

/-- `y = [elt for x in <list>]` where each turn may make objects and change tables: Inv says what stands -/
theorem map_comp {elt iter : Expr} {x y : Str} {px py : Pos} {scope : Scope} {cl : List (Str × Addr)} {pos spos : Pos} {env : Env} {Q : Flow → Shared → Prop} {items : Array Value} {ax : Addr} {m : Str → Option Value}
    (Inv : List Addr → Nat → List Value → Heap → Prop)
    (hh : A.handled = none)
    (hsw : swapsWith (.ListComp elt [⟨.Name x px, iter, [], 0⟩] scope pos) (some (.Name y py)) spos.line env = pure true)
    (hclos : closureFor scope env = pure cl) (hcell : ∀ z ∈ scope.names, z.2 ≠ .cell) (hkind : scope.kind = .function)
    (hnames : ∀ z ∈ scope.names, z.2 = .local → scope.names.lookup z.1 = some .local) (hx : scope.names.lookup x = some .local)
    (hy : env.kindOf y = some .local) (hp : (env.scope.kind == .class || (env.scope.kind == .module && env.locals != env.globals)) = false) (hsz : items.size ≤ 1000)
    (hlist : s.heap.IsList ax items) (hnL : s.heap.Ns env.locals m)
    (hiter : ∀ (Q' : Value → Shared → Prop), Q' (.ref ax) s → wpAny (model prog w) A (eval iter env) Q' E s)
    (h0 : ∀ (own : List Addr) (h' : Heap), (∀ b ∈ own, b ≠ env.locals → s.heap.get? b = none) → (∀ b o, s.heap.get? b = some o → h'.get? b = some o) → Inv own 0 [] h')
    (hframe : ∀ (own : List Addr) (i : Nat) (ys : List Value) (h h' : Heap), Inv own i ys h → (∀ b o, b ∉ own → h.get? b = some o → h'.get? b = some o) → Inv own i ys h')
    (hkeep : ∀ (own : List Addr) (i : Nat) (ys : List Value) (h : Heap), Inv own i ys h → ∀ o, s.heap.get? ax = some o → h.get? ax = some o)
    (turn : ∀ (own : List Addr) (C : Addr) (i : Nat) (ys : List Value) (s' : Shared) (v : Value) (m' : Str → Option Value) (E' : Value → Shared → Prop), C ∈ own → env.locals ∈ own → (∀ b ∈ own, ∃ o, s'.heap.get? b = some o) → (∀ b ∈ own, b ≠ env.locals → s.heap.get? b = none) →
      C ≠ env.locals → s.heap.objs.size ≤ C → items[i]? = some v → ys.length = i → Inv own i ys s'.heap → s'.heap.Ns C m' → m' x = some v →
      wpAny (model prog w) A (eval elt (compEnvC scope cl C env)) (fun u s'' => ∃ h' tk, s'' = { s' with heap := h', toks := tk } ∧ (∀ b ∈ own, ∀ o, s'.heap.get? b = some o → h'.get? b = some o) ∧ Inv own (i + 1) (ys ++ [u]) h') E' s')
    (hQ : ∀ (D : Addr) (own : List Addr) (h' : Heap) (tk : Nat) (ys : List Value), s.heap.get? D = none → D ∈ own → env.locals ∈ own → (∀ b ∈ own, b ≠ env.locals → s.heap.get? b = none) → h'.IsList D ys.toArray → h'.PlainList D ys.toArray → ys.length = items.size → Inv own items.size ys h' →
      h'.Ns env.locals (fun z => if z = y then some (.ref D) else m z) → Q .next { s with heap := h', toks := tk })
    (hs : ∀ x, foldedSetIterable iter env x = pure x := by intro _; rfl) :
    wpAny (model prog w) A (exec (.Assign [.Name y py] (.ListComp elt [⟨.Name x px, iter, [], 0⟩] scope pos) spos) env) Q E s := by
  rw [exec_Assign_Name_used _ _ _ _ hsw]
  refine wpAny_bind (wpAny_standAt (wpAny_bind ?_))
  show wpAny _ A (do let _ ← comprehension (.ListComp elt [⟨.Name x px, iter, [], 0⟩] scope pos) scope env _ (newList []) false (eval iter env) (some (assign (.Name y py) env))) _ _ s
  refine wpAny_bind (wpAny_mono (wpAny_comprehension_free (use := some (assign (.Name y py) env)) (Q := fun _ s' => Q .next s') rfl hs hclos hkind hnames
    (hiter _ ?_)) (fun _ s' hq => wpAny_pure (wpAny_pure hq)) fun _ _ e => e)
  refine wpAny_pyIter_list hlist ?_
  refine wpAny_newObj_type (wpAny_newFunctionEnv hcell (by intro y hy; simp at hy) (fun h₁ hns₁ hsb₁ => ?_) hkind)
  dsimp only at hns₁ hsb₁ ⊢
  obtain ⟨I, hI⟩ : ∃ I : Nat, I = s.heap.objs.size := ⟨_, rfl⟩
  generalize hH1 : s.heap.push { cls := .type "list_iterator", dict := none, data := .fields #[.ref ax, .int 0 0] } = H1 at hns₁ hsb₁ ⊢
  have hS1 : H1.objs.size = I + 1 := by rw [← hH1, Heap.size_push, hI]
  generalize hH2 : H1.push { cls := .type "list", dict := none, data := .seq ([] : List Value).toArray } = H2 at hns₁ hsb₁ ⊢
  have hC : H2.objs.size = I + 1 + 1 := by rw [← hH2, Heap.size_push, hS1]
  rw [hC] at hns₁ hsb₁ ⊢
  rw [hS1, ← hI]
  have lows : ∀ b o, s.heap.get? b = some o → @LT.lt Nat _ b I := fun b o e => hI ▸ Heap.lt_size e
  have n1 : ∀ b : Nat, b < I → b ≠ I + 1 + 1 := fun b hb => by omega
  have n2 : ∀ b : Nat, b < I → b ≠ I + 1 := fun b hb => by omega
  have n3 : ∀ b : Nat, b < I → b ≠ I := fun b hb => by omega
  have old : ∀ b o, s.heap.get? b = some o → h₁.get? b = some o := fun b o e =>
    hsb₁.extBut b o (n1 b (lows b o e)) (Heap.get?_push_of_some _ (hH2 ▸ Heap.get?_push_of_some _ (hH1 ▸ Heap.get?_push_of_some _ e)))
  have c12 : (I + 1 : Nat) ≠ I + 1 + 1 := by omega
  have c01 : (I : Nat) ≠ I + 1 := by omega
  have c02 : (I : Nat) ≠ I + 1 + 1 := by omega
  have hacc : h₁.PlainList (I + 1) #[] := ⟨_, hsb₁.extBut _ _ c12 (Heap.get?_push_of_some _ (hH2 ▸ Heap.get?_push_at hS1.symm rfl))⟩
  have hiti : h₁.IsListIter I ax 0 := ⟨_, hsb₁.extBut _ _ c02 (Heap.get?_push_of_some _ (hH2 ▸ Heap.get?_push_of_some _ (hH1 ▸ Heap.get?_push_at hI rfl))), rfl, rfl⟩
  have hLlt : @LT.lt Nat _ env.locals I := by obtain ⟨o, _, _, e, _⟩ := hnL; exact lows _ _ e
  have haxlt : @LT.lt Nat _ ax I := by obtain ⟨o, e, _⟩ := hlist; exact lows _ _ e
  have fr0 : ∀ b : Nat, I ≤ b → s.heap.get? b = none := fun b hb => Heap.get?_none_of_le (hI ▸ hb)
  have own0 : ∀ b ∈ [(I + 1 : Nat), I + 1 + 1, I, env.locals], b ≠ env.locals → s.heap.get? b = none := fun b hb hne => by
    rcases List.mem_cons.mp hb with rfl | hb
    · exact fr0 _ (by omega)
    · rcases List.mem_cons.mp hb with rfl | hb
      · exact fr0 _ (by omega)
      · rcases List.mem_cons.mp hb with rfl | hb
        · exact fr0 _ (Nat.le_refl _)
        · exact absurd (List.mem_singleton.mp hb) hne
  generalize hown : [(I + 1 : Nat), I + 1 + 1, I, env.locals] = own at own0
  have inD : (I + 1 : Nat) ∈ own := hown ▸ .head _
  have inC : (I + 1 + 1 : Nat) ∈ own := hown ▸ .tail _ (.head _)
  have inI : (I : Nat) ∈ own := hown ▸ .tail _ (.tail _ (.head _))
  have inL : env.locals ∈ own := hown ▸ .tail _ (.tail _ (.tail _ (.head _)))
  have loop : ∀ s₃ : Shared, s₃ = { s with heap := h₁, toks := s.toks + ([] : List (Str × Value)).length } →
      codeAny (model prog w) A (.compLoop (.ListComp elt [⟨.Name x px, iter, [], 0⟩] scope pos) 0 (.ref I) (.ref (I + 1)) (compEnvC scope cl (I + 1 + 1) env))
        (compPost (model prog w) A E (some (assign (.Name y py) env)) (fun _ s' => Q .next s') (.ref (I + 1)) (I + 1 + 1)) s₃ := by
    rintro s₃ rfl
    have hpe : ((compEnvC scope cl (I + 1 + 1) env).scope.kind == .class || ((compEnvC scope cl (I + 1 + 1) env).scope.kind == .module && (compEnvC scope cl (I + 1 + 1) env).locals != (compEnvC scope cl (I + 1 + 1) env).globals)) = false := by simp [compEnvC, relabel, hkind]
    have hxk : (compEnvC scope cl (I + 1 + 1) env).kindOf x = some .local := lookup_relabel_local hx
    have W := Walks.list (prog := prog) (w := w) hh I ax (n3 _ haxlt) items
    refine codeAny_compLoop_tests
      (fun k s' => ∃ h' tk i ys m', s' = { s with heap := h', toks := tk } ∧ i ≤ items.size ∧ k = items.size + 1 - i ∧ ys.length = i ∧ h'.IsListIter I ax i ∧ h'.PlainList (I + 1) ys.toArray ∧ h'.Ns (I + 1 + 1) m' ∧ h'.Ns env.locals m ∧ Inv own i ys h') ?_ (items.size + 1)
      ⟨h₁, _, 0, [], _, rfl, Nat.zero_le _, rfl, rfl, hiti, hacc, hns₁, hnL.at' fun o e => old _ o e, h0 own h₁ own0 old⟩
    rintro k s' ⟨h', tk, i, ys, m', rfl, hle, rfl, hlen, hit, hl', hn', hnL', hInv⟩
    have hlx : h'.IsList ax items := hlist.at fun o e => hkeep _ _ _ _ hInv o e
    have exs : ∀ (h : Heap), h.IsListIter I ax (i + 1) → h.PlainList (I + 1) ys.toArray → (∃ m, h.Ns (I + 1 + 1) m) → h.Ns env.locals m → ∀ b ∈ own, ∃ o, h.get? b = some o := fun h e1 e2 e3 e4 b hb => by
      rw [← hown] at hb
      rcases List.mem_cons.mp hb with rfl | hb
      · obtain ⟨n, e⟩ := e2; exact ⟨_, e⟩
      · rcases List.mem_cons.mp hb with rfl | hb
        · obtain ⟨_, o, _, _, e, _⟩ := e3; exact ⟨o, e⟩
        · rcases List.mem_cons.mp hb with rfl | hb
          · obtain ⟨o, e, _⟩ := e1; exact ⟨o, e⟩
          · obtain ⟨o, _, _, e, _⟩ := e4; exact List.mem_singleton.mp hb ▸ ⟨o, e⟩
    by_cases hlt : i < items.size
    · refine W.item i _ _ _ hlt ⟨hit, hlx⟩ fun v h₂ tk₂ hPv hst₂ hk₂ => ?_
      have k2 : ∀ b o, b ≠ I → h'.get? b = some o → h₂.get? b = some o := fun b o hb e => hk₂ b o (by simpa using hb) e
      refine wpAny_assign_Name (wpAny_storeName_local hxk (hn'.at' fun o e => k2 _ o (Ne.symm c02) e) (fun h₃ hn₃ hs₃ => ?_) hpe)
      refine wpAny_tests_nil ?_
      simp only [if_true]
      have hInv₃ : Inv own i ys h₃ := hframe _ _ _ _ _ hInv fun b o hb e => hs₃.extBut b o (fun q => hb (q ▸ inC)) (k2 b o (fun q => hb (q ▸ inI)) e)
      have hit₃ : h₃.IsListIter I ax (i + 1) := hst₂.1.at fun o e => hs₃.extBut I o c02 e
      have hl₃ : h₃.PlainList (I + 1) ys.toArray := (hl'.at fun o e => k2 _ o (Ne.symm c01) e).at fun o e => hs₃.extBut _ o c12 e
      have hnL₃ : h₃.Ns env.locals m := (hnL'.at' fun o e => k2 _ o (n3 _ hLlt) e).at' fun o e => hs₃.extBut _ o (n1 _ hLlt) e
      refine wpAny_mono (turn own (I + 1 + 1) i ys _ v _ _ inC inL (exs h₃ hit₃ hl₃ ⟨_, hn₃⟩ hnL₃) own0 (Ne.symm (n1 _ hLlt)) (by rw [← hI]; show @LE.le Nat _ I (I + 1 + 1); omega) hPv hlen hInv₃ hn₃ (by simp)) (fun u s₄ h₄ => ?_) fun _ _ e => e
      obtain ⟨h₄, tk₄, rfl, hk₄, hInv₄⟩ := h₄
      dsimp only at hk₄
      have hl₄ : h₄.PlainList (I + 1) ys.toArray := hl₃.at fun o e => hk₄ _ inD o e
      refine wpAny_list_append_plain (hsz := by rw [List.size_toArray, sizeLine_eq]; omega) hl₄ fun h₅ hl₅ hs₅ => ?_
      refine ⟨_, ?_, h₅, _, i + 1, ys ++ [u], _, rfl, hlt, rfl, by simp [hlen], ?_, ?_, (hn₃.at' fun o e => hk₄ _ inC o e).sameBut hs₅ (Ne.symm c12), (hnL₃.at' fun o e => hk₄ _ inL o e).sameBut hs₅ (n2 _ hLlt), hframe _ _ _ _ _ hInv₄ fun b o hb e => hs₅.extBut b o (fun q => hb (q ▸ inD)) e⟩
      · omega
      · exact (hit₃.at fun o e => hk₄ _ inI o e).at fun o e => hs₅.extBut _ o c01 e
      · have : (ys ++ [u]).toArray = ys.toArray.push u := by simp
        rw [this]; exact hl₅
    · have hend : i = items.size := by omega
      subst hend
      refine W.done _ _ _ ⟨hit, hlx⟩ fun h₂ tk₂ hk₂ => ?_
      have k2 : ∀ b o, b ≠ I → h'.get? b = some o → h₂.get? b = some o := fun b o hb e => hk₂ b o (by simpa using hb) e
      show wpAny _ A (assign (.Name y py) env (.ref (I + 1))) _ _ _
      refine wpAny_assign_Name (wpAny_storeName_local hy (hnL'.at' fun o e => k2 _ o (n3 _ hLlt) e) (fun h₃ hn₃ hs₃ => ?_) hp)
      refine ⟨m', (hn'.at' fun o e => k2 _ o (Ne.symm c02) e).sameBut hs₃ (Ne.symm (n1 _ hLlt)), fun h₄ hs₄ => ?_⟩
      have hl₄ : h₄.PlainList (I + 1) ys.toArray := ((hl'.at fun o e => k2 _ o (Ne.symm c01) e).at fun o e => hs₃.extBut _ o (Ne.symm (n2 _ hLlt)) e).at fun o e => hs₄.extBut _ o c12 e
      exact hQ (I + 1) own h₄ _ ys (fr0 _ (by omega)) inD inL own0 hl₄.isList hl₄ hlen (hframe _ _ _ _ _ hInv fun b o hb e => hs₄.extBut b o (fun q => hb (q ▸ inC)) (hs₃.extBut b o (fun q => hb (q ▸ inL)) (k2 b o (fun q => hb (q ▸ inI)) e)))
        (hn₃.sameBut hs₄ (n1 _ hLlt))
  exact codeAny_compStart_list (loop _ rfl) (wpAny_pyIter_listiter hiti (loop _ rfl))

theorem eqAt_same (A : Around) (s : Shared) (v : Value) : SeqAt.EqAt A s v v true := fun prog w E Q h => by
  unfold eqBool
  refine wpAny_holding ?_
  rw [if_pos (by simp)]
  exact wpAny_bind (wpAny_rule (wpAny_pure h))
/-- two lists of the same values do not differ -/
theorem ne_same {a b : Addr} {items : Array Value} {Q : Value → Shared → Prop} (ha : s.heap.IsList a items) (hb : s.heap.IsList b items) (hu : A.units < cLine) (h : Q (.bool false) s) :
    wpAny (model prog w) A (compareOp .NotEq (.ref a) (.ref b)) Q E s := by
  have := SeqAt.RcNeAt.lists (A := A) (e := fun _ => true) ha hb rfl hu fun j _ _ => eqAt_same _ _ _
  have e : (!(List.range items.size).all fun _ => true) = false := by simp
  rw [e] at this
  exact this prog w E Q h
end
end Mine

end
section
open PySem PySem.W PySem.Calls PyProof.Rows
namespace Mine
/-- what one mark's calls give, wherever the law's ground stands -/
structure MarkOk (w : World) (g : Heap) (i : Nat) (mark : Str) (tab : Array Value) (old : Option Addr) (tabf : Addr → Array Value) : Prop where
  prep : ∀ (s : Shared) (Q : Value → Shared → Prop) (E : Value → Shared → Prop) (t : Tok), (∀ b o, g.get? b = some o → (hideAll s.heap [23]).get? b = some o) → s.heap.get? 23 = some (tabObj tab) →
    (∀ c, old = some c → (hideAll s.heap [23]).CodeRec (.ref c) selQ) → BackS w s Q i old tabf → wpAny (model PySem.Challenge.rw_xb0050_01.row.prog w) A0 (call (.ref 28) [.str mark t]) Q E s
  taken : ∀ (s : Shared) (Q : Value → Shared → Prop) (E : Value → Shared → Prop) (t : Tok) (u : Value) (k : Nat), (∀ b o, g.get? b = some o → s.heap.get? b = some o) → IsName k u → BackB s Q (pass i k) →
    wpAny (model PySem.Challenge.rw_xb0050_01.row.prog w) A0 (call (.ref 42) [.str mark t, u]) Q E s
  wild : ∀ (s : Shared) (Q : Value → Shared → Prop) (E : Value → Shared → Prop) (t : Tok), (∀ b o, g.get? b = some o → s.heap.get? b = some o) → BackB s Q true →
    wpAny (model PySem.Challenge.rw_xb0050_01.row.prog w) A0 (call (.ref 21) [.str mark t]) Q E s
theorem BackB.to {s : Shared} {Q : Value → Shared → Prop} {r r' : Bool} (x : BackB s Q r) (e : r' = r) : BackB s Q r' := e ▸ x
section
variable {w : World} {p : Program} {loose : List Str} {mean : ExcName → Option Value} {mg mb : Str → Option Value} {g : Heap}

theorem mark_0 (X : (hd.heap_39 w.params).In g) (T : Top p loose mean mg mb g) (C : CodeHd g 27 23) : MarkOk w g 0 (Str.ofString "{*}*") #[] none (fun c' => #[rawInt 8, rawInt 8, .ref c']) where
  prep := fun s Q E t hg h23 hc hQ => prep_0 h23 (T.keeps hg) (C.keeps hg) t hQ (X.keeps hg)
  wild := fun s Q E t hg hQ => wild_0 (T.keeps hg) t hQ (X.keeps hg)
  taken := fun s Q E t u k hg hn hQ => by
    rcases hn with ⟨hlt, t2, rfl⟩ | ⟨rfl, t2, rfl⟩
    · exact taken_0 (T.keeps hg) _ _ _ (hQ.to (by simp [pass]; omega)) (X.keeps hg)
    · exact taken_int (T.keeps hg) _ _ _ (hQ.to (by decide)) (X.keeps hg)

theorem mark_1 (c₀ : Addr) (X : (hd.heap_39 w.params).In g) (T : Top p loose mean mg mb g) (C : CodeHd g 27 23) : MarkOk w g 1 (Str.ofString "{}*") #[rawInt 8, rawInt 8, .ref c₀] (some c₀) (fun c' => #[rawInt 8, rawInt 8, .ref c₀, rawInt 14, rawInt 8, .ref c']) where
  prep := fun s Q E t hg h23 hc hQ => prep_1 c₀ h23 (T.keeps hg) (C.keeps hg) t hQ (X.keeps hg)
  wild := fun s Q E t hg hQ => wild_1 (T.keeps hg) t hQ (X.keeps hg)
  taken := fun s Q E t u k hg hn hQ => by
    rcases hn with ⟨hlt, t2, rfl⟩ | ⟨rfl, t2, rfl⟩
    · rcases (by omega : k = 0 ∨ k = 1 ∨ k = 2 ∨ k = 3 ∨ k = 4 ∨ k = 5 ∨ k = 6) with rfl | rfl | rfl | rfl | rfl | rfl | rfl
      · exact taken_1 (T.keeps hg) _ _ _ (by decide +kernel) (hQ.to (by decide +kernel)) (X.keeps hg)
      · exact taken_1 (T.keeps hg) _ _ _ (by decide +kernel) (hQ.to (by decide +kernel)) (X.keeps hg)
      · exact taken_1 (T.keeps hg) _ _ _ (by decide +kernel) (hQ.to (by decide +kernel)) (X.keeps hg)
      · exact taken_1 (T.keeps hg) _ _ _ (by decide +kernel) (hQ.to (by decide +kernel)) (X.keeps hg)
      · exact taken_1 (T.keeps hg) _ _ _ (by decide +kernel) (hQ.to (by decide +kernel)) (X.keeps hg)
      · exact taken_1 (T.keeps hg) _ _ _ (by decide +kernel) (hQ.to (by decide +kernel)) (X.keeps hg)
      · exact taken_1 (T.keeps hg) _ _ _ (by decide +kernel) (hQ.to (by decide +kernel)) (X.keeps hg)
    · exact taken_int (T.keeps hg) _ _ _ (hQ.to (by decide)) (X.keeps hg)

theorem mark_2 (c₀ : Addr) (c₁ : Addr) (X : (hd.heap_39 w.params).In g) (T : Top p loose mean mg mb g) (C : CodeHd g 27 23) : MarkOk w g 2 (Str.ofString "{*}a") #[rawInt 8, rawInt 8, .ref c₀, rawInt 14, rawInt 8, .ref c₁] (some c₁) (fun c' => #[rawInt 8, rawInt 8, .ref c₀, rawInt 14, rawInt 8, .ref c₁, rawInt 24, rawInt 8, .ref c']) where
  prep := fun s Q E t hg h23 hc hQ => prep_2 c₀ c₁ h23 (T.keeps hg) (C.keeps hg) t hQ (X.keeps hg)
  wild := fun s Q E t hg hQ => wild_2 (T.keeps hg) t hQ (X.keeps hg)
  taken := fun s Q E t u k hg hn hQ => by
    rcases hn with ⟨hlt, t2, rfl⟩ | ⟨rfl, t2, rfl⟩
    · rcases (by omega : k = 0 ∨ k = 1 ∨ k = 2 ∨ k = 3 ∨ k = 4 ∨ k = 5 ∨ k = 6) with rfl | rfl | rfl | rfl | rfl | rfl | rfl
      · exact taken_2_0 (T.keeps hg) _ _ (hQ.to (by decide)) (X.keeps hg)
      · exact taken_2_1 (T.keeps hg) _ _ (hQ.to (by decide)) (X.keeps hg)
      · exact taken_2_2 (T.keeps hg) _ _ (hQ.to (by decide)) (X.keeps hg)
      · exact taken_2_3 (T.keeps hg) _ _ (hQ.to (by decide)) (X.keeps hg)
      · exact taken_2_4 (T.keeps hg) _ _ (hQ.to (by decide)) (X.keeps hg)
      · exact taken_2_5 (T.keeps hg) _ _ (hQ.to (by decide)) (X.keeps hg)
      · exact taken_2_6 (T.keeps hg) _ _ (hQ.to (by decide)) (X.keeps hg)
    · exact taken_int (T.keeps hg) _ _ _ (hQ.to (by decide)) (X.keeps hg)

theorem mark_3 (c₀ : Addr) (c₁ : Addr) (c₂ : Addr) (X : (hd.heap_39 w.params).In g) (T : Top p loose mean mg mb g) (C : CodeHd g 27 23) : MarkOk w g 3 (Str.ofString "{*}ba") #[rawInt 8, rawInt 8, .ref c₀, rawInt 14, rawInt 8, .ref c₁, rawInt 24, rawInt 8, .ref c₂] (some c₂) (fun c' => #[rawInt 8, rawInt 8, .ref c₀, rawInt 14, rawInt 8, .ref c₁, rawInt 24, rawInt 8, .ref c₂]) where
  prep := fun s Q E t hg h23 hc hQ => prep_3 c₀ c₁ c₂ h23 (T.keeps hg) (C.keeps hg) (hc _ rfl) t hQ (X.keeps hg)
  wild := fun s Q E t hg hQ => wild_3 (T.keeps hg) t hQ (X.keeps hg)
  taken := fun s Q E t u k hg hn hQ => by
    rcases hn with ⟨hlt, t2, rfl⟩ | ⟨rfl, t2, rfl⟩
    · rcases (by omega : k = 0 ∨ k = 1 ∨ k = 2 ∨ k = 3 ∨ k = 4 ∨ k = 5 ∨ k = 6) with rfl | rfl | rfl | rfl | rfl | rfl | rfl
      · exact taken_3_0 (T.keeps hg) _ _ (hQ.to (by decide)) (X.keeps hg)
      · exact taken_3_1 (T.keeps hg) _ _ (hQ.to (by decide)) (X.keeps hg)
      · exact taken_3_2 (T.keeps hg) _ _ (hQ.to (by decide)) (X.keeps hg)
      · exact taken_3_3 (T.keeps hg) _ _ (hQ.to (by decide)) (X.keeps hg)
      · exact taken_3_4 (T.keeps hg) _ _ (hQ.to (by decide)) (X.keeps hg)
      · exact taken_3_5 (T.keeps hg) _ _ (hQ.to (by decide)) (X.keeps hg)
      · exact taken_3_6 (T.keeps hg) _ _ (hQ.to (by decide)) (X.keeps hg)
    · exact taken_int (T.keeps hg) _ _ _ (hQ.to (by decide)) (X.keeps hg)

theorem mark_4 (c₀ : Addr) (c₁ : Addr) (c₂ : Addr) (X : (hd.heap_39 w.params).In g) (T : Top p loose mean mg mb g) (C : CodeHd g 27 23) : MarkOk w g 4 (Str.ofString "{x}*") #[rawInt 8, rawInt 8, .ref c₀, rawInt 14, rawInt 8, .ref c₁, rawInt 24, rawInt 8, .ref c₂] (some c₂) (fun c' => #[rawInt 8, rawInt 8, .ref c₀, rawInt 14, rawInt 8, .ref c₁, rawInt 24, rawInt 8, .ref c₂, rawInt 33, rawInt 8, .ref c']) where
  prep := fun s Q E t hg h23 hc hQ => prep_4 c₀ c₁ c₂ h23 (T.keeps hg) (C.keeps hg) t hQ (X.keeps hg)
  wild := fun s Q E t hg hQ => wild_4 (T.keeps hg) t hQ (X.keeps hg)
  taken := fun s Q E t u k hg hn hQ => by
    rcases hn with ⟨hlt, t2, rfl⟩ | ⟨rfl, t2, rfl⟩
    · rcases (by omega : k = 0 ∨ k = 1 ∨ k = 2 ∨ k = 3 ∨ k = 4 ∨ k = 5 ∨ k = 6) with rfl | rfl | rfl | rfl | rfl | rfl | rfl
      · exact taken_4 (T.keeps hg) _ _ _ (by decide +kernel) (hQ.to (by decide +kernel)) (X.keeps hg)
      · exact taken_4 (T.keeps hg) _ _ _ (by decide +kernel) (hQ.to (by decide +kernel)) (X.keeps hg)
      · exact taken_4 (T.keeps hg) _ _ _ (by decide +kernel) (hQ.to (by decide +kernel)) (X.keeps hg)
      · exact taken_4 (T.keeps hg) _ _ _ (by decide +kernel) (hQ.to (by decide +kernel)) (X.keeps hg)
      · exact taken_4 (T.keeps hg) _ _ _ (by decide +kernel) (hQ.to (by decide +kernel)) (X.keeps hg)
      · exact taken_4 (T.keeps hg) _ _ _ (by decide +kernel) (hQ.to (by decide +kernel)) (X.keeps hg)
      · exact taken_4 (T.keeps hg) _ _ _ (by decide +kernel) (hQ.to (by decide +kernel)) (X.keeps hg)
    · exact taken_int (T.keeps hg) _ _ _ (hQ.to (by decide)) (X.keeps hg)

theorem mark_5 (c₀ : Addr) (c₁ : Addr) (c₂ : Addr) (c₃ : Addr) (X : (hd.heap_39 w.params).In g) (T : Top p loose mean mg mb g) (C : CodeHd g 27 23) : MarkOk w g 5 (Str.ofString "{y}*") #[rawInt 8, rawInt 8, .ref c₀, rawInt 14, rawInt 8, .ref c₁, rawInt 24, rawInt 8, .ref c₂, rawInt 33, rawInt 8, .ref c₃] (some c₃) (fun c' => #[rawInt 8, rawInt 8, .ref c₀, rawInt 14, rawInt 8, .ref c₁, rawInt 24, rawInt 8, .ref c₂, rawInt 33, rawInt 8, .ref c₃]) where
  prep := fun s Q E t hg h23 hc hQ => prep_5 c₀ c₁ c₂ c₃ h23 (T.keeps hg) (C.keeps hg) (hc _ rfl) t hQ (X.keeps hg)
  wild := fun s Q E t hg hQ => wild_5 (T.keeps hg) t hQ (X.keeps hg)
  taken := fun s Q E t u k hg hn hQ => by
    rcases hn with ⟨hlt, t2, rfl⟩ | ⟨rfl, t2, rfl⟩
    · rcases (by omega : k = 0 ∨ k = 1 ∨ k = 2 ∨ k = 3 ∨ k = 4 ∨ k = 5 ∨ k = 6) with rfl | rfl | rfl | rfl | rfl | rfl | rfl
      · exact taken_5 (T.keeps hg) _ _ _ (by decide +kernel) (hQ.to (by decide +kernel)) (X.keeps hg)
      · exact taken_5 (T.keeps hg) _ _ _ (by decide +kernel) (hQ.to (by decide +kernel)) (X.keeps hg)
      · exact taken_5 (T.keeps hg) _ _ _ (by decide +kernel) (hQ.to (by decide +kernel)) (X.keeps hg)
      · exact taken_5 (T.keeps hg) _ _ _ (by decide +kernel) (hQ.to (by decide +kernel)) (X.keeps hg)
      · exact taken_5 (T.keeps hg) _ _ _ (by decide +kernel) (hQ.to (by decide +kernel)) (X.keeps hg)
      · exact taken_5 (T.keeps hg) _ _ _ (by decide +kernel) (hQ.to (by decide +kernel)) (X.keeps hg)
      · exact taken_5 (T.keeps hg) _ _ _ (by decide +kernel) (hQ.to (by decide +kernel)) (X.keeps hg)
    · exact taken_int (T.keeps hg) _ _ _ (hQ.to (by decide)) (X.keeps hg)

/-- the select table before the turn i, and its last code -/
inductive Tab : Nat → Array Value → Option Addr → Prop
  | t0 : Tab 0 #[] none
  | t1 (c₀ : Addr) : Tab 1 #[rawInt 8, rawInt 8, .ref c₀] (some c₀)
  | t2 (c₀ c₁ : Addr) : Tab 2 #[rawInt 8, rawInt 8, .ref c₀, rawInt 14, rawInt 8, .ref c₁] (some c₁)
  | t3 (c₀ c₁ c₂ : Addr) : Tab 3 #[rawInt 8, rawInt 8, .ref c₀, rawInt 14, rawInt 8, .ref c₁, rawInt 24, rawInt 8, .ref c₂] (some c₂)
  | t4 (c₀ c₁ c₂ : Addr) : Tab 4 #[rawInt 8, rawInt 8, .ref c₀, rawInt 14, rawInt 8, .ref c₁, rawInt 24, rawInt 8, .ref c₂] (some c₂)
  | t5 (c₀ c₁ c₂ c₃ : Addr) : Tab 5 #[rawInt 8, rawInt 8, .ref c₀, rawInt 14, rawInt 8, .ref c₁, rawInt 24, rawInt 8, .ref c₂, rawInt 33, rawInt 8, .ref c₃] (some c₃)
  | t6 (c₀ c₁ c₂ c₃ : Addr) : Tab 6 #[rawInt 8, rawInt 8, .ref c₀, rawInt 14, rawInt 8, .ref c₁, rawInt 24, rawInt 8, .ref c₂, rawInt 33, rawInt 8, .ref c₃] (some c₃)

/-- the marks of the law -/
def markOf : Nat → Str
  | 0 => "{*}*" | 1 => "{}*" | 2 => "{*}a" | 3 => "{*}ba" | 4 => "{x}*" | _ => "{y}*"
theorem mark_turn {i : Nat} {tab : Array Value} {old : Option Addr} (hi : i < 6) (ht : Tab i tab old) (X : (hd.heap_39 w.params).In g) (T : Top p loose mean mg mb g) (C : CodeHd g 27 23) :
    ∃ tabf, MarkOk w g i (markOf i) tab old tabf ∧ ∀ c', ∃ last, Tab (i + 1) (tabf c') last ∧ (last = some c' ∨ last = old) := by
  cases ht with
  | t0 => exact ⟨_, mark_0 X T C, fun c' => ⟨_, .t1 c', .inl rfl⟩⟩
  | t1 c₀ => exact ⟨_, mark_1 c₀ X T C, fun c' => ⟨_, .t2 c₀ c', .inl rfl⟩⟩
  | t2 c₀ c₁ => exact ⟨_, mark_2 c₀ c₁ X T C, fun c' => ⟨_, .t3 c₀ c₁ c', .inl rfl⟩⟩
  | t3 c₀ c₁ c₂ => exact ⟨_, mark_3 c₀ c₁ c₂ X T C, fun c' => ⟨_, .t4 c₀ c₁ c₂, .inr rfl⟩⟩
  | t4 c₀ c₁ c₂ => exact ⟨_, mark_4 c₀ c₁ c₂ X T C, fun c' => ⟨_, .t5 c₀ c₁ c₂ c', .inl rfl⟩⟩
  | t5 c₀ c₁ c₂ c₃ => exact ⟨_, mark_5 c₀ c₁ c₂ c₃ X T C, fun c' => ⟨_, .t6 c₀ c₁ c₂ c₃, .inr rfl⟩⟩
  | t6 => omega
end
end Mine

end
section
open PySem PySem.W PySem.Calls PyProof.Rows
namespace Mine
theorem ThingAt.same {h : Heap} {a d d' : Addr} {u u' : Value} (x : ThingAt h a d u) (x' : ThingAt h a d' u') : u = u' := by
  obtain ⟨o, _, e, _, _, c3, n⟩ := x
  obtain ⟨o', _, e', _, _, c3', n'⟩ := x'
  rw [e] at e'; cases e'
  rw [c3] at c3'; cases c3'
  obtain ⟨q, es, ep, q1, q2, q3, q4⟩ := n
  obtain ⟨q', es', ep', q1', q2', q3', q4'⟩ := n'
  rw [q1] at q1'; cases q1'
  rw [q2] at q2'; cases q2'
  have h1 := q4 "tag"
  rw [q4' "tag"] at h1
  simpa using h1.symm
theorem nameOf_inj : ∀ k : Nat, k < 7 → ∀ k' : Nat, k' < 7 → nameOf k = nameOf k' → k = k' := by decide +kernel
theorem IsName.same {k k' : Nat} {u : Value} (x : IsName k u) (x' : IsName k' u) : k = k' := by
  rcases x with ⟨h1, t1, e1⟩ | ⟨h1, t1, e1⟩ <;> rcases x' with ⟨h2, t2, e2⟩ | ⟨h2, t2, e2⟩
  · rw [e1] at e2
    have := (Value.str.inj e2).1
    exact nameOf_inj k h1 k' h2 this
  · rw [e1] at e2; cases e2
  · rw [e1] at e2; cases e2
  · rw [h1, h2]
open Classical in
/-- the mark j takes the thing v -/
noncomputable def took (h : Heap) (j : Nat) (v : Value) : Bool := decide (∃ (a d : Addr) (u : Value) (k : Nat), v = .ref a ∧ ThingAt h a d u ∧ IsName k u ∧ pass j k = true)
open Classical in
theorem took_eq {h : Heap} {j : Nat} {a d : Addr} {u : Value} {k : Nat} (T : ThingAt h a d u) (n : IsName k u) : took h j (.ref a) = pass j k := by
  unfold took
  cases hp : pass j k with
  | true => exact decide_eq_true ⟨a, d, u, k, rfl, T, n, hp⟩
  | false =>
    refine decide_eq_false ?_
    rintro ⟨a', d', u', k', e, T', n', hp'⟩
    cases e
    have := T.same T'
    subst this
    have := n.same n'
    subst this
    rw [hp] at hp'; cases hp'

theorem filterMap_ext' {α : Type} {f f' : Nat → Option α} : ∀ (P : List Nat), (∀ i ∈ P, f i = f' i) → P.filterMap f = P.filterMap f'
  | [], _ => rfl
  | i :: P, h => by rw [List.filterMap_cons, List.filterMap_cons, h i (.head _), filterMap_ext' P fun j hj => h j (.tail _ hj)]
theorem filter_range {α : Type} (p : α → Bool) (pz : Nat → Bool) : ∀ (n : Nat) (l : List α), l.length = n → (∀ i v, l[i]? = some v → p v = pz i) → l.filter p = ((List.range n).filter pz).filterMap (l[·]?) := by
  intro n
  induction n with
  | zero => intro l hl _; rw [List.length_eq_zero_iff.mp hl]; rfl
  | succ n ih =>
    intro l hl h
    have hne : l ≠ [] := fun q => by rw [q] at hl; cases hl
    obtain ⟨l', v, rfl⟩ : ∃ l' v, l = l' ++ [v] := ⟨l.dropLast, l.getLast hne, (List.dropLast_concat_getLast hne).symm⟩
    have hl' : l'.length = n := by simpa using hl
    rw [List.filter_append, List.range_succ, List.filter_append, List.filterMap_append, ih l' hl' fun i u e => h i u (by rw [List.getElem?_append_left (by have := (List.getElem?_eq_some_iff.mp e).1; exact this)]; exact e)]
    congr 1
    · refine filterMap_ext' _ fun i hi => ?_
      have : i < n := by simpa using (List.mem_filter.mp hi).1
      rw [List.getElem?_append_left (by omega)]
    · have hv : p v = pz n := h n v (by rw [List.getElem?_append_right (by omega)]; simp [hl'])
      cases hp : pz n with
      | true => subst hl'; rw [hp] at hv; simp [hv, hp]
      | false => rw [hp] at hv; simp [hv, hp]
theorem filterMap_told {α : Type} (f : Nat → Option α) : ∀ (P : List Nat) (ys : List α), ys.length = P.length → (∀ (t : Nat) (v : α), ys[t]? = some v → ∃ i : Nat, P[t]? = some i ∧ f i = some v) → ys = P.filterMap f
  | [], ys, hl, _ => List.length_eq_zero_iff.mp hl
  | i :: P, [], hl, _ => by cases hl
  | i :: P, y :: ys, hl, h => by
    obtain ⟨i', e1, e2⟩ := h 0 y rfl
    simp at e1; subst e1
    rw [List.filterMap_cons_some e2]
    rw [← filterMap_told f P ys (by simpa using hl) fun t v e => by simpa using h (t + 1) v (by simpa using e)]
/-- what the selector told is what the law takes -/
theorem told_eq {h : Heap} {j : Nat} {ax : Addr} {items : Array Value} {ks : List Nat} {ys : List Value} (Th : Things h ax items ks) (hp : Passed items (fun i => pass j (ks.getD i 0)) ys)
    (hl : ys.length = (passing (fun i => pass j (ks.getD i 0)) items.size 0).length) : ys = items.toList.filter (took h j) := by
  rw [filter_range (took h j) (fun i => pass j (ks.getD i 0)) items.size items.toList (by simp) fun i v e => ?_]
  · refine filterMap_told _ _ _ (by rw [hl]; unfold passing; simp) fun t v e => ?_
    obtain ⟨i, e1, e2⟩ := hp t v e
    refine ⟨i, by unfold passing at e1; simpa using e1, by simpa using e2⟩
  · obtain ⟨a, d, u, k, rfl, T, hk, n⟩ := Th.at' i v (by simpa using e)
    rw [took_eq T n]
    simp [List.getD, hk]
theorem Things.keep {h h' : Heap} {ax : Addr} {items : Array Value} {ks : List Nat} (x : Things h ax items ks) (k : ∀ b o, h.get? b = some o → h'.get? b = some o) : Things h' ax items ks :=
  ⟨x.list.at fun o e => k _ o e, x.plain.at fun o e => k _ o e, x.size, fun i v e => let ⟨a, d, u, n, r1, r2, r3⟩ := x.at' i v e; ⟨a, d, u, n, r1, r2.keep fun b o _ e => k b o e, r3⟩⟩

def Shut (P : Prop) : Prop := P
section
variable {w : World} {A : Around} {E : Value → Shared → Prop} {s : Shared} {g : Heap} {L : Addr} {m : Str → Option Value} {news : List (Addr × Obj)} {Q : Value → Shared → Prop}
theorem wpAny_shut {M : Model} {α : Type} {t : Sem α} {Q : α → Shared → Prop} (h : wpAny M A t (fun v s => Shut (Q v s)) E s) : wpAny M A t Q E s := wpAny_mono h (fun _ _ x => x) fun _ _ e => e
structure Lowly (A : Around) : Prop where
  handled : A.handled = none
  depth : A.depth ≤ 390
  units : A.units ≤ 390
theorem Lowly.from {M : Model} {α : Type} {t : Sem α} {Q : α → Shared → Prop} (x : Lowly A) (h : wpAny M A0 t Q E s) : wpAny M A t Q E s := from_A0 h x.handled (Nat.le_trans x.depth (by decide)) (Nat.le_trans x.units (by decide))
/-- a call that hands back a bool and leaves every object as it stood -/
theorem call_keep_K {c : Sem Value} {r : Bool} (hA : Lowly A) (F : Fr g L s.heap m) (N : News g L s.heap news) (hc : ∀ Q', BackB s Q' r → wpAny (model PySem.Challenge.rw_xb0050_01.row.prog w) A0 c Q' E s)
    (h : ∀ h' tk, Fr g L h' m → News g L h' news → Q (.bool r) { s with heap := h', toks := tk }) : wpAny (model PySem.Challenge.rw_xb0050_01.row.prog w) A c Q E s :=
  hA.from (hc _ fun b h' tk e k => e ▸ h h' tk (F.keeps k) (N.grown k))
def CodeObj (o : Obj) : Prop := ∃ vs t, o.data = .fields vs ∧ vs[1]? = some (.str selQ t)
theorem hide_of {h₀ h : Heap} {P : Addr} (k : ∀ b o, h₀.get? b = some o → h.get? b = some o) (hn : h₀.get? P = none) : ∀ b o, h₀.get? b = some o → (hideAll h [P]).get? b = some o :=
  fun b o e => hideAll_get [P] (k b o e) (by simp only [List.mem_singleton]; rintro rfl; rw [hn] at e; cases e)
/-- _prepare_tag is called with a mark -/
theorem prep_K {i : Nat} {mark : Str} {tab : Array Value} {old : Option Addr} {tabf : Addr → Array Value} {t : Tok} {rest : List (Addr × Obj)} (hA : Lowly A) (F : Fr g L s.heap m) (N : News g L s.heap ((23, tabObj tab) :: rest)) (hr : ∀ p ∈ rest, p.1 ≠ 23)
    (M : MarkOk w g i mark tab old tabf) (ho : ∀ c, old = some c → ∃ oc, (c, oc) ∈ rest ∧ CodeObj oc)
    (h : ∀ f h' tk c' oc', Fr g L h' m → News g L h' ((c', oc') :: (23, tabObj (tabf c')) :: rest) → CodeObj oc' → (s.heap.get? c' = none ∨ old = some c') → (∀ b o, b ≠ 23 → s.heap.get? b = some o → h'.get? b = some o) → Sel PySem.Challenge.rw_xb0050_01.row.prog w h' f i → Q (.ref f) { s with heap := h', toks := tk }) :
    wpAny (model PySem.Challenge.rw_xb0050_01.row.prog w) A (call (.ref 28) [.str mark t]) Q E s := by
  have h23 := N (23, _) (.head _)
  refine hA.from (M.prep s _ _ t (hide_of F.keep h23.2.2) h23.1 (fun c e => ?_) fun f h' tk c' k1 k2 k3 k4 k5 => ?_)
  · obtain ⟨oc, hm, vs, t', e1, e2⟩ := ho c e
    exact ⟨c, oc, vs, t', rfl, hideAll_get [23] (N _ (.tail _ hm)).1 (by simpa using hr _ hm), e1, e2⟩
  obtain ⟨c, oc, vs, t', e0, e1, e2, e3⟩ := k3
  cases e0
  have kF : Fr g L h' m := ⟨F.ns.at' fun o e => k1 _ o (Ne.symm h23.2.1) e, fun b o e => k1 b o (by rintro rfl; rw [h23.2.2] at e; cases e) (F.keep b o e), F.above⟩
  have hc' : c' ≠ L ∧ g.get? c' = none := by
    rcases k4 with q | q
    · refine ⟨?_, ?_⟩
      · rintro rfl; obtain ⟨o, _, _, e, _⟩ := F.ns; rw [q] at e; cases e
      · cases e : g.get? c' with
        | none => rfl
        | some o => have := F.keep _ _ e; rw [q] at this; cases this
    · obtain ⟨oc'', hm, _⟩ := ho c' q
      exact (N _ (.tail _ hm)).2
  refine h f h' tk c' oc kF (fun p hp => ?_) ⟨vs, t', e2, e3⟩ k4 k1 k5
  rcases List.mem_cons.mp hp with rfl | hp
  · exact ⟨e1, hc'⟩
  · rcases List.mem_cons.mp hp with rfl | hp
    · exact ⟨k2, h23.2⟩
    · exact ⟨k1 _ _ (hr p hp) (N p (.tail _ hp)).1, (N p (.tail _ hp)).2⟩
/-- the second comprehension: the law's own filter -/
theorem taken_K {iter test : Expr} {x : Str} {px px' : Pos} {scope : Scope} {cl : List (Str × Addr)} {pos : Pos} {env : Env} {i : Nat} {items : Array Value} {ks : List Nat} {ax : Addr} (hA : Lowly A) (F : Fr g L s.heap m) (N : News g L s.heap news)
    (Th : Things s.heap ax items ks) (hsz : items.size ≤ 1000)
    (hclos : closureFor scope env = pure cl) (hcell : ∀ y ∈ scope.names, y.2 ≠ .cell) (hkind : scope.kind = .function)
    (hnames : ∀ y ∈ scope.names, y.2 = .local → scope.names.lookup y.1 = some .local) (hx : scope.names.lookup x = some .local) (hxd : (x == ("__debug__" : Str)) = false)
    (hiter : ∀ Q', Q' (.ref ax) s → wpAny (model PySem.Challenge.rw_xb0050_01.row.prog w) A (eval iter env) Q' E s)
    (htest : ∀ C (s₃ : Shared) m₃ a d u k E', s.heap.objs.size ≤ C → s₃.heap.Ns C m₃ → m₃ x = some (.ref a) → (∀ b o, s.heap.get? b = some o → s₃.heap.get? b = some o) → ThingAt s₃.heap a d u → IsName k u →
      wpAny (model PySem.Challenge.rw_xb0050_01.row.prog w) A (isTrue test (compEnvC scope cl C env) (eval test (compEnvC scope cl C env))) (fun ok s₄ => Shut (ok = pass i k ∧ Keeps s₃ s₄)) E' s₃)
    (h : ∀ D h' tk, Fr g L h' m → News g L h' news → (∀ b o, s.heap.get? b = some o → h'.get? b = some o) → h'.IsList D (items.toList.filter (took s.heap i)).toArray → Q (.ref D) { s with heap := h', toks := tk })
    (hs : ∀ x, foldedSetIterable iter env x = pure x := by intro _; rfl) :
    wpAny (model PySem.Challenge.rw_xb0050_01.row.prog w) A (eval (.ListComp (.Name x px') [⟨.Name x px, iter, [test], 0⟩] scope pos) env) Q E s := by
  refine wpAny_ListComp_free (took s.heap i) (fun v y => y = v) hclos hcell hkind hnames hx (hiter _ ?_) hs
  refine wpAny_pyIter_list Th.list ?_
  have hne : ax ≠ s.heap.objs.size := by obtain ⟨o, e, _⟩ := Th.list; exact Nat.ne_of_lt (Heap.lt_size e)
  have kp : ∀ b o, s.heap.get? b = some o → b ∉ [s.heap.objs.size] := fun b o e q => Nat.ne_of_lt (Heap.lt_size e) (List.mem_singleton.mp q)
  refine ⟨s.heap.objs.size, _, _, _, _, _, rfl, Walks.list hA.handled s.heap.objs.size ax hne items, by rw [sizeLine_eq]; omega, ⟨⟨_, Heap.get?_push_size _ rfl, rfl, rfl⟩, Th.list.push _⟩, fun b hb => ?_, ⟨fun C j v s₃ m₃ E' hC hP hn hm hk _ => ?_, fun C j v s₃ m₃ E' hC hP hp hn hm hk _ => ?_⟩, fun D h' tk ys vs hD hl _ hlen hv hP hk => ?_⟩
  · dsimp only
    rw [Heap.size_push]
    rcases List.mem_cons.mp hb with rfl | hb
    · exact Nat.lt_succ_self _
    · rw [List.mem_singleton.mp hb]; obtain ⟨o, e, _⟩ := Th.list; exact Nat.lt_succ_of_lt (Heap.lt_size e)
  · obtain ⟨a, d, u, k, rfl, T, _, n⟩ := Th.at' j v hP
    refine wpAny_tests_one (wpAny_mono (htest C s₃ m₃ a d u k E' (Nat.le_of_succ_le (by dsimp only at hC; rw [Heap.size_push] at hC; exact hC)) hn hm (fun b o e => hk b o (kp b o e) (Heap.get?_push_of_some _ e)) (T.keep fun b o _ e => hk b o (kp b o e) (Heap.get?_push_of_some _ e)) n) (fun ok s₄ h₄ => ?_) fun _ _ e => e)
    rw [took_eq T n]
    exact h₄
  · refine wpAny_Name (wpAny_loadName_local (v := v) (by simp [compEnvC, relabel, hkind]) (lookup_relabel_local hx) hn hm ?_) hxd
    exact ⟨rfl, s₃.heap, s₃.toks, rfl, fun _ _ e => e⟩
  · have hvs : vs = items.toList := by
      refine List.ext_getElem? fun n => ?_
      cases e : vs[n]? with
      | some v => have := hv n v e; simp [this]
      | none => have := List.getElem?_eq_none_iff.mp e; symm; rw [List.getElem?_eq_none_iff]; simp; omega
    subst hvs
    have hys : ys = (items.toList.filter (took s.heap i)).toArray := by
      have : ys.toList = items.toList.filter (took s.heap i) := by
        generalize items.toList.filter (took s.heap i) = l1 at hP
        generalize ys.toList = l2 at hP
        induction hP with
        | nil => rfl
        | cons h _ ih => rw [h, ih]
      rw [← this]
    have k' : ∀ b o, s.heap.get? b = some o → h'.get? b = some o := fun b o e => hk b o (kp b o e) (Heap.get?_push_of_some _ e)
    exact h D h' tk (F.keeps k') (N.grown k') k' (hys ▸ hl)
end
end Mine

end
section
open PySem PySem.W PySem.Calls PyProof.Rows
namespace Mine
theorem of_shut {P : Prop} (h : Shut P) : P := h
theorem to_shut {P : Prop} (h : P) : Shut P := h
section
variable {M : Model} {A : Around} {E : Value → Shared → Prop} {s : Shared} {Q : Value → Shared → Prop} {env : Env} {x : Str} {pos : Pos} {v : Value}
theorem nameC_L {m : Str → Option Value} (hn : s.heap.Ns env.locals m) (hv : m x = some v) (h : Q v s) (hk : env.scope.kind = .function := by rfl) (hx : env.kindOf x = some .local := by rfl) (hd : (x == ("__debug__" : Str)) = false := by decide) :
    wpAny M A (eval (.Name x pos) env) Q E s := wpAny_Name (wpAny_loadName_local hk hx hn hv h) hd
theorem nameC_C {c : Addr} {o : Obj} (hc : env.cells.lookup x = some c) (ho : s.heap.get? c = some o) (hd : o.data = .cell (some v)) (h : Q v s) (hk : env.scope.kind = .function := by rfl) (hx : env.kindOf x = some .cell := by rfl) (hb : (x == ("__debug__" : Str)) = false := by decide) :
    wpAny M A (eval (.Name x pos) env) Q E s := wpAny_Name (wpAny_loadName_cell hk hx hc ⟨o, ho, hd⟩ h) hb
theorem nameC_G {g : Heap} {K : Frag} {p : Program} {loose : List Str} {mean : ExcName → Option Value} {mg mb : Str → Option Value} (X : K.In g) (T : Top p loose mean mg mb g) (k : ∀ b o, g.get? b = some o → s.heap.get? b = some o) (e : nsIn K mainGlobals x = some (some v)) (hg : env.globals = mainGlobals) (h : Q v s)
    (hk : env.scope.kind = .function := by rfl) (hx : env.kindOf x = some .globalImplicit := by rfl) (hd : (x == ("__debug__" : Str)) = false := by decide) :
    wpAny M A (eval (.Name x pos) env) Q E s := Name_function_global hk hx (loadGlobal_global (by rw [hg]; exact T.g.keeps k) (mg_of X T.g e) h) hd
end

def ThInv (hb : Heap) (L : Addr) (ks : List Nat) (own : List Addr) (i : Nat) (ys : List Value) (h : Heap) : Prop :=
  (∀ b ∈ own, b ≠ L → hb.get? b = none) ∧ (∀ b o, b ≠ 30 → b ≠ L → hb.get? b = some o → h.get? b = some o) ∧
  ((i = 0 ∧ h.get? 30 = some (tabObj #[])) ∨ ∃ c, h.get? 30 = some (tabObj #[rawInt 43, rawInt 12, .ref c])) ∧ ys.length = i ∧
  ∀ (t : Nat) (v : Value), ys[t]? = some v → ∃ (a d : Addr) (u : Value) (k : Nat), v = .ref a ∧ ThingAt h a d u ∧ ks[t]? = some k ∧ IsName k u ∧ hb.get? a = none ∧ hb.get? d = none ∧ a ∉ own ∧ d ∉ own
section
variable {hb : Heap} {L : Addr} {ks : List Nat} {o30 : Obj}
theorem ThInv.start {own : List Addr} {h : Heap} (h30 : hb.get? 30 = some (tabObj #[])) (h1 : ∀ b ∈ own, b ≠ L → hb.get? b = none) (h2 : ∀ b o, hb.get? b = some o → h.get? b = some o) : ThInv hb L ks own 0 [] h :=
  ⟨h1, fun b o _ _ e => h2 b o e, .inl ⟨rfl, h2 _ _ h30⟩, rfl, fun t v e => by simp at e⟩
theorem ThInv.frame {own : List Addr} {i : Nat} {ys : List Value} {h h' : Heap} (h30 : hb.get? 30 = some o30) (hL : L ≠ 30) (x : ThInv hb L ks own i ys h) (k : ∀ b o, b ∉ own → h.get? b = some o → h'.get? b = some o) : ThInv hb L ks own i ys h' := by
  obtain ⟨x1, x2, x3, x4, x5⟩ := x
  have n30 : (30 : Addr) ∉ own := fun q => by have := x1 _ q (Ne.symm hL); rw [h30] at this; cases this
  refine ⟨x1, fun b o h1 h2 e => k b o (fun q => by have := x1 _ q h2; rw [e] at this; cases this) (x2 b o h1 h2 e), ?_, x4, fun t v e => ?_⟩
  · rcases x3 with ⟨e1, e2⟩ | ⟨c, e2⟩
    · exact .inl ⟨e1, k _ _ n30 e2⟩
    · exact .inr ⟨c, k _ _ n30 e2⟩
  · obtain ⟨a, d, u, n, r1, r2, r3, r4, r5, r6, r7, r8⟩ := x5 t v e
    exact ⟨a, d, u, n, r1, r2.keep fun b o hbd e => k b o (by rcases hbd with rfl | rfl <;> assumption) e, r3, r4, r5, r6, r7, r8⟩
theorem ThInv.things {own : List Addr} {ys : List Value} {h : Heap} {D : Addr} (x : ThInv hb L ks own ks.length ys h) (hl : h.IsList D ys.toArray) (hp : h.PlainList D ys.toArray) : Things h D ys.toArray ks :=
  ⟨hl, hp, by simpa using x.2.2.2.1, fun i v e => let ⟨a, d, u, n, r1, r2, r3, r4, _⟩ := x.2.2.2.2 i v (by simpa using e); ⟨a, d, u, n, r1, r2, r3, r4⟩⟩
end
section
variable {w : World} {A : Around} {E : Value → Shared → Prop} {s : Shared} {Q : Value → Shared → Prop} {g hb : Heap} {L : Addr} {ks : List Nat} {p : Program} {loose : List Str} {mean : ExcName → Option Value} {mg mb : Str → Option Value}
theorem thing_turn {own : List Addr} {i k : Nat} {ys : List Value} {u : Value} (hA : Lowly A) (X : (hd.heap_39 w.params).In g) (T : Top p loose mean mg mb g) (C : CodeHd g 34 30) (hg30 : g.get? 30 = none) (hgL : g.get? L = none) (hgb : ∀ b o, g.get? b = some o → hb.get? b = some o)
    {o30 : Obj} (h30 : hb.get? 30 = some o30) (hL : L ≠ 30) {oL : Obj} (hbL : hb.get? L = some oL) (x : ThInv hb L ks own i ys s.heap) (hown : ∀ b ∈ own, ∃ o, s.heap.get? b = some o) (hsL : ∃ o, s.heap.get? L = some o) (hk : ks[i]? = some k) (hn : IsName k u)
    (hQ : ∀ f h' tk, (∀ b ∈ own, ∀ o, s.heap.get? b = some o → h'.get? b = some o) → ThInv hb L ks own (i + 1) (ys ++ [.ref f]) h' → Q (.ref f) { s with heap := h', toks := tk }) :
    wpAny (model PySem.Challenge.rw_xb0050_01.row.prog w) A (call (.ref 35) [u]) Q E s := by
  obtain ⟨x1, x2, x3, x4, x5⟩ := id x
  have n30 : (30 : Addr) ∉ own := fun q => by have := x1 _ q (Ne.symm hL); rw [h30] at this; cases this
  have kg : ∀ b o, g.get? b = some o → s.heap.get? b = some o := fun b o e => x2 b o (by rintro rfl; rw [hg30] at e; cases e) (by rintro rfl; rw [hgL] at e; cases e) (hgb b o e)
  have kh := hide_of kg hg30
  have back : BackT s Q u := fun f d h' tk c' k1 k2 k3 k4 k5 => by
    have none_b : ∀ a, s.heap.get? a = none → hb.get? a = none := fun a e => by
      cases q : hb.get? a with
      | none => rfl
      | some o =>
        by_cases q1 : a = L
        · obtain ⟨o', e'⟩ := hsL; rw [q1, e'] at e; cases e
        · by_cases q2 : a = 30
          · subst q2
            rcases x3 with ⟨_, e2⟩ | ⟨_, e2⟩ <;> (rw [e2] at e; cases e)
          · have := x2 a o q2 q1 q; rw [e] at this; cases this
    have nown : ∀ a, s.heap.get? a = none → a ∉ own := fun a e q => by obtain ⟨o, e'⟩ := hown a q; rw [e] at e'; cases e'
    refine hQ f h' tk (fun b hb o e => k1 b o (fun q => n30 (q ▸ hb)) e) ⟨x1, fun b o h1 h2 e => k1 b o h1 (x2 b o h1 h2 e), .inr ⟨c', k2⟩, by simp [x4], fun t v e => ?_⟩
    rcases Nat.lt_trichotomy t ys.length with q | q | q
    · rw [List.getElem?_append_left q] at e
      obtain ⟨a, d', u', n, r1, r2, r3, r4, r5, r6, r7, r8⟩ := x5 t v e
      refine ⟨a, d', u', n, r1, r2.keep fun b o hbd e => k1 b o ?_ e, r3, r4, r5, r6, r7, r8⟩
      rcases hbd with rfl | rfl
      · rintro rfl; rw [h30] at r5; cases r5
      · rintro rfl; rw [h30] at r6; cases r6
    · subst q
      simp at e
      subst e
      exact ⟨f, d, u, k, rfl, k5, x4.symm ▸ hk, hn, none_b f k3, none_b d k4, nown f k3, nown d k4⟩
    · rw [List.getElem?_eq_none (by rw [List.length_append, List.length_singleton]; omega)] at e; cases e
  refine hA.from ?_
  rcases x3 with ⟨_, e2⟩ | ⟨c, e2⟩
  · exact thing_new e2 (T.keeps kh) (C.keeps kh) u back (X.keeps kh)
  · exact thing_again c e2 (T.keeps kh) (C.keeps kh) u back (X.keeps kh)
/-- the eight names stand in their list -/
theorem names_at {t0 t1 t2 t3 t4 t5 t6 t7 : Tok} {r : Int} (h0 : 0 ≤ r) (h8 : r < 8) :
    ∃ u, (#[Value.str (Str.ofString "a") t0, Value.str (Str.ofString "b") t1, Value.str (Str.ofString "{x}a") t2, Value.str (Str.ofString "{x}b") t3, Value.str (Str.ofString "{y}a") t4, Value.str (Str.ofString "ba") t5, Value.str (Str.ofString "{y}ba") t6, Value.int 5 t7] : Array Value)[r.toNat]? = some u ∧ IsName r.toNat u := by
  rcases (by omega : r = 0 ∨ r = 1 ∨ r = 2 ∨ r = 3 ∨ r = 4 ∨ r = 5 ∨ r = 6 ∨ r = 7) with rfl | rfl | rfl | rfl | rfl | rfl | rfl | rfl
  · exact ⟨_, rfl, .inl ⟨by decide, t0, rfl⟩⟩
  · exact ⟨_, rfl, .inl ⟨by decide, t1, rfl⟩⟩
  · exact ⟨_, rfl, .inl ⟨by decide, t2, rfl⟩⟩
  · exact ⟨_, rfl, .inl ⟨by decide, t3, rfl⟩⟩
  · exact ⟨_, rfl, .inl ⟨by decide, t4, rfl⟩⟩
  · exact ⟨_, rfl, .inl ⟨by decide, t5, rfl⟩⟩
  · exact ⟨_, rfl, .inl ⟨by decide, t6, rfl⟩⟩
  · exact ⟨_, rfl, .inr ⟨rfl, t7, rfl⟩⟩
theorem ints_at : ∀ {vs : List Value} {ns : List Int}, IntsAre vs ns → ∀ (i : Nat) (v : Value), vs[i]? = some v → ∃ n t, ns[i]? = some n ∧ v = .int n t
  | _, _, .nil, i, v, e => by simp at e
  | _, _, .cons n t r, 0, v, e => by simp at e; exact ⟨n, t, rfl, e.symm⟩
  | _, _, .cons n t r, i + 1, v, e => by simpa using ints_at r i v (by simpa using e)
end
end Mine

end
section
open PySem PySem.W PySem.Calls PyProof.Rows
namespace Mine
/-- where the law ends: True, the tables laid aside have grown, all generators are bare -/
structure LawEnd (tabs : List (Addr × Addr)) (s₁ : Shared) (r : Result) (s' : Shared) : Prop where
  ret : r = .ok (.ret (.bool true))
  keep : ∀ b o, (ghostOf s₁.heap tabs).get? b = some o → s'.heap.get? b = some o
  os : s'.os = s₁.os
  bare : AllBare s'.gens
  grown : ∀ q ∈ tabs, ∃ ps, s'.heap.get? q.2 = some (tabObj ps)
theorem law_ends {M : Model} {A : Around} {cd : Code} {s s₁ : Shared} {cw : ClaimW} {cl : Str → Option Addr} {mean : ExcName → Option Value} {args : List WData} {tabs : List (Addr × Addr)} (hT : TabsAt tabs s₁.heap) (hr : ∀ x, cw.raises args x = false)
    (hp : cw.post args (.bool true) args = true) (h : codeAny M A cd (fun r s' => Shut (LawEnd tabs s₁ r s')) s) : codeAny M A cd (GoodWG cw cl mean args s₁) s :=
  codeAny_mono h fun r s' (e : LawEnd tabs s₁ r s') => by
    have tab : ∀ b o, b ∈ tabs.map (·.2) → s₁.heap.get? b = some o → isCodeTable s₁.heap b ∧ o = tabObj #[] ∧ ∃ ps, s'.heap.get? b = some (tabObj ps) := by
      intro b o hb eb
      obtain ⟨q, hq, rfl⟩ := List.mem_map.mp hb
      obtain ⟨hC, h0⟩ := hT q hq
      exact ⟨(hC.tab h0).isCodeTable, Option.some.inj (eb.symm.trans h0), e.grown q hq⟩
    refine ⟨.inl ⟨_, .bool true, [], e.ret, hr, .bool _, hp, fun _ => ⟨List.nodup_nil, fun a ha => nomatch ha⟩⟩, ⟨fun b o eb => ?_, fun b o eb => ?_⟩, e.os, e.bare⟩
    · rcases Classical.em (b ∈ tabs.map (·.2)) with hb | hb
      · obtain ⟨t1, rfl, ps, t2⟩ := tab b o hb eb
        exact .inr (.inl ⟨t1, rfl, #[], ps, rfl, by simpa using t2⟩)
      · exact .inl (e.keep b o (ghost_ne eb hb))
    · rcases Classical.em (b ∈ tabs.map (·.2)) with hb | hb
      · exact (tab b o hb eb).2.2.elim fun _ t => ⟨_, t⟩
      · exact ⟨o, e.keep b o (ghost_ne eb hb)⟩

/-- every object that was made between two heaps -/
def newSince (h h' : Heap) : List (Addr × Obj) := (List.range h'.objs.size).filterMap fun b => match h.get? b with
  | none => (h'.get? b).map fun o => (b, o)
  | some _ => none
theorem newSince_mem {h h' : Heap} {b : Addr} {o : Obj} (h1 : h.get? b = none) (h2 : h'.get? b = some o) : (b, o) ∈ newSince h h' :=
  List.mem_filterMap.mpr ⟨b, List.mem_range.mpr (Heap.lt_size h2), by rw [h1, h2]; rfl⟩
theorem newSince_of {h h' : Heap} {p : Addr × Obj} (x : p ∈ newSince h h') : h.get? p.1 = none ∧ h'.get? p.1 = some p.2 := by
  obtain ⟨b, _, e⟩ := List.mem_filterMap.mp x
  cases q : h.get? b with
  | some o => rw [q] at e; cases e
  | none =>
    rw [q] at e
    obtain ⟨o, eo, rfl⟩ := Option.map_eq_some_iff.mp e
    exact ⟨q, eo⟩
theorem newSince_things {h h' h'' : Heap} {D : Addr} {items : Array Value} {ks : List Nat} (x : Things h' D items ks) (hD : h.get? D = none) (hf : ∀ (t : Nat) (v : Value), items[t]? = some v → ∃ a d u k, v = Value.ref a ∧ ThingAt h' a d u ∧ ks[t]? = some k ∧ IsName k u ∧ h.get? a = none ∧ h.get? d = none)
    (k : HasAll h'' (newSince h h')) : Things h'' D items ks := by
  have up : ∀ b o, h.get? b = none → h'.get? b = some o → h''.get? b = some o := fun b o h1 h2 => k (b, o) (newSince_mem h1 h2)
  exact ⟨x.list.at fun o e => up _ _ hD e, x.plain.at fun o e => up _ _ hD e, x.size, fun i v e => by
    obtain ⟨a, d, u, n, r1, r2, r3, r4, r5, r6⟩ := hf i v e
    exact ⟨a, d, u, n, r1, r2.keep fun b o hbd e => up b o (by rcases hbd with rfl | rfl <;> assumption) e, r3, r4⟩⟩

section
variable {w : World} {A : Around} {E : Value → Shared → Prop} {s : Shared} {g : Heap} {L : Addr} {m : Str → Option Value} {p : Program} {loose : List Str} {mean : ExcName → Option Value} {mg mb : Str → Option Value}
/-- the law's first comprehension -/
theorem things_K {elt iter : Expr} {x y : Str} {px py : Pos} {scope : Scope} {cl : List (Str × Addr)} {pos spos : Pos} {env : Env} {Q : Flow → Shared → Prop} {vs : List Value} {ns : List Int} {ax : Addr} {news : List (Addr × Obj)}
    (hA : Lowly A) (X : (hd.heap_39 w.params).In g) (T : Top p loose mean mg mb g) (C : CodeHd g 34 30) (F : Fr g L s.heap m) (N : News g L s.heap news) (h30 : ((30 : Addr), tabObj #[]) ∈ news)
    (hI : IntsAre vs ns) (hS : g.IsList ax vs.toArray) (hsz : ns.length ≤ 1000) (hL : env.locals = L)
    (hsw : swapsWith (.ListComp elt [⟨.Name x px, iter, [], 0⟩] scope pos) (some (.Name y py)) spos.line env = pure true)
    (hclos : closureFor scope env = pure cl) (hcell : ∀ z ∈ scope.names, z.2 ≠ .cell) (hkind : scope.kind = .function)
    (hnames : ∀ z ∈ scope.names, z.2 = .local → scope.names.lookup z.1 = some .local) (hx : scope.names.lookup x = some .local)
    (hy : env.kindOf y = some .local) (hp : (env.scope.kind == .class || (env.scope.kind == .module && env.locals != env.globals)) = false)
    (hiter : ∀ (Q' : Value → Shared → Prop), Q' (.ref ax) s → wpAny (model PySem.Challenge.rw_xb0050_01.row.prog w) A (eval iter env) Q' E s)
    (turn : ∀ (Cc : Addr) (s' : Shared) (m' : Str → Option Value) (n : Int) (t : Tok) (Q' : Value → Shared → Prop) (E' : Value → Shared → Prop), (∀ b o, g.get? b = some o → s'.heap.get? b = some o) → (∀ q ∈ news, q.1 ≠ 30 → s'.heap.get? q.1 = some q.2) →
      s'.heap.Ns Cc m' → m' x = some (.int n t) → (∀ (u : Value) (tk : Nat), IsName (Int.fmod n 8).toNat u → wpAny (model PySem.Challenge.rw_xb0050_01.row.prog w) A (call (.ref 35) [u]) Q' E' { s' with toks := tk }) →
      wpAny (model PySem.Challenge.rw_xb0050_01.row.prog w) A (eval elt (compEnvC scope cl Cc env)) Q' E' s')
    (hQ : ∀ (D : Addr) (h' : Heap) (tk : Nat) (ys : List Value) (ps : Array Value), ys.length ≤ 1000 → Fr g L h' (fun z => if z = y then some (.ref D) else m z) → (∀ q ∈ news, q.1 ≠ 30 → h'.get? q.1 = some q.2) → h'.get? 30 = some (tabObj ps) → News g L h' (newSince s.heap h') →
      (∀ h'', HasAll h'' (newSince s.heap h') → Things h'' D ys.toArray (ns.map fun n => (Int.fmod n 8).toNat)) → Q .next { s with heap := h', toks := tk })
    (hs : ∀ x, foldedSetIterable iter env x = pure x := by intro _; rfl) :
    wpAny (model PySem.Challenge.rw_xb0050_01.row.prog w) A (exec (.Assign [.Name y py] (.ListComp elt [⟨.Name x px, iter, [], 0⟩] scope pos) spos) env) Q E s := by
  have n30 := N _ h30
  have hL30 : L ≠ 30 := Ne.symm n30.2.1
  have hgL : g.get? L = none := Heap.get?_none_of_le F.above
  obtain ⟨oL, _, _, eL, _⟩ := F.ns
  have hax : ax ≠ 30 ∧ ax ≠ L := by
    obtain ⟨o, e, _⟩ := hS
    exact ⟨(by rintro rfl; rw [n30.2.2] at e; cases e), (by rintro rfl; rw [hgL] at e; cases e)⟩
  have hlenI : vs.length = ns.length := hI.length
  refine map_comp (ThInv s.heap L (ns.map fun n => (Int.fmod n 8).toNat)) hA.handled hsw hclos hcell hkind hnames hx hy hp (by simp only [List.size_toArray]; omega) (hS.at fun o e => F.keep _ o e) (hL.symm ▸ F.ns) hiter
    (fun own h' h1 h2 => ThInv.start n30.1 (hL ▸ h1) h2) (fun own i ys h h' h1 h2 => ThInv.frame n30.1 hL30 h1 h2) (fun own i ys h h1 o e => h1.2.1 _ _ hax.1 hax.2 e) (fun own Cc i ys s' v m' E' hC hLo hown hown0 hCL hCge hv hlen hInv hn hm => ?_)
    (fun D own h' tk ys hD hDo hLo hown0 hl hpl hlen hInv hn => ?_) hs
  · obtain ⟨n, t, hni, rfl⟩ := ints_at hI i v (by simpa using hv)
    have kg : ∀ b o, g.get? b = some o → s'.heap.get? b = some o := fun b o e => hInv.2.1 b o (by rintro rfl; rw [n30.2.2] at e; cases e) (by rintro rfl; rw [hgL] at e; cases e) (F.keep b o e)
    have hsL : ∃ o, s'.heap.get? L = some o := hown L (hL ▸ hLo)
    refine turn Cc s' m' n t _ E' kg (fun q hq h => hInv.2.1 _ _ h (N q hq).2.1 (N q hq).1) hn hm fun u tk hu => ?_
    refine thing_turn (s := { s' with toks := tk }) hA X T C n30.2.2 hgL F.keep n30.1 hL30 eL hInv hown hsL (by simp [hni]) hu fun f h' tk' k1 k2 => ⟨h', tk', rfl, k1, k2⟩
  · have hlk : ys.length = (ns.map fun n => (Int.fmod n 8).toNat).length := by simp only [hlen, List.size_toArray, List.length_map]; exact hlenI
    have hszl : vs.toArray.size = (ns.map fun n => (Int.fmod n 8).toNat).length := by simp only [List.size_toArray, List.length_map]; exact hlenI
    rw [hszl] at hInv
    have Th := hInv.things hl hpl
    have kp : ∀ b o, b ≠ 30 → b ≠ L → s.heap.get? b = some o → h'.get? b = some o := hInv.2.1
    have kg : ∀ b o, g.get? b = some o → h'.get? b = some o := fun b o e => kp b o (by rintro rfl; rw [n30.2.2] at e; cases e) (by rintro rfl; rw [hgL] at e; cases e) (F.keep b o e)
    have h30' : ∃ ps, h'.get? 30 = some (tabObj ps) := by
      rcases hInv.2.2.1 with ⟨_, e⟩ | ⟨c, e⟩
      · exact ⟨_, e⟩
      · exact ⟨_, e⟩
    obtain ⟨ps, e30⟩ := h30'
    refine hQ D h' tk ys ps (by rw [hlk, List.length_map]; exact hsz) ⟨hL ▸ hn, kg, F.above⟩ (fun q hq h => kp _ _ h (N q hq).2.1 (N q hq).1) e30 (fun q hq => ?_) (fun h'' k => newSince_things Th hD (fun t v e => ?_) k)
    · obtain ⟨h1, h2⟩ := newSince_of hq
      refine ⟨h2, ?_, ?_⟩
      · intro q1; rw [q1, eL] at h1; cases h1
      · cases e : g.get? q.1 with
        | none => rfl
        | some o => rw [F.keep _ _ e] at h1; cases h1
    · obtain ⟨a, d, u, k, r1, r2, r3, r4, r5, r6, _⟩ := hInv.2.2.2.2 t v (by simpa using e)
      exact ⟨a, d, u, k, r1, r2, r3, r4, r5, r6⟩
end
end Mine

end
section
open PySem PySem.W PySem.Calls PyProof.Rows
namespace Mine
/-- the law's loop before the turn i -/
def LoopAt (g : Heap) (L cM D : Addr) (R : List (Addr × Obj)) (os₀ : OsState) (x : Addr × Obj) (oM : Obj) (i : Nat) (s : Shared) : Prop :=
  ∃ (m : Str → Option Value) (tab : Array Value) (last : Option Addr) (R' : List (Addr × Obj)), Fr g L s.heap m ∧ m "things" = some (.ref D) ∧ News g L s.heap (x :: (cM, oM) :: (23, tabObj tab) :: R') ∧ (∀ p ∈ R, p ∈ R') ∧
    (∀ p ∈ x :: R', p.1 ≠ 23 ∧ p.1 ≠ cM) ∧ (∀ p ∈ R', p.1 ≠ x.1) ∧ Tab i tab last ∧ (∀ c, last = some c → ∃ oc, (c, oc) ∈ R' ∧ CodeObj oc) ∧ AllBare s.gens ∧ s.os = os₀
section
variable {prog : Program} {w : World} {A : Around} {E : Value → Shared → Prop} {s : Shared} {g : Heap} {L cM D : Addr} {R : List (Addr × Obj)} {os₀ : OsState}
theorem wpAny_For_shut {M : Model} {env : Env} {target iter body orelse pos} {Q : Flow → Shared → Prop}
    (h : wpAny M A (eval iter env) (fun x s₁ => Shut (wpAny M A (pyIter x) (fun it s₂ =>
      codeAny M A (.forLoop target it body orelse env) (fun r s' => match r with | .ok f => Q f s' | .error e => cameBackBy M A env E e s') s₂) E s₁)) E s)
    (hs : ∀ x, foldedSetIterable iter env x = pure x := by intro _; rfl) :
    wpAny M A (exec (.For target iter body orelse pos) env) Q E s := wpAny_For h hs

theorem loop_marks {x : Str} {px : Pos} {body : List Stmt} {env : Env} {Rr : Result → Shared → Prop} {marks : Array Value} {ax : Addr} {oA oM : Obj} {m : Str → Option Value} (hA : Lowly A)
    (F : Fr g L s.heap m) (hm : m "things" = some (.ref D)) (N : News g L s.heap ((ax, oA) :: (cM, oM) :: (23, tabObj #[]) :: R)) (hl : oA.cls = .type "list" ∧ ∃ n, oA.data = .seq marks n) (hsz : marks.size = 6)
    (hR : ∀ p ∈ (ax, oA) :: R, p.1 ≠ 23 ∧ p.1 ≠ cM) (hcM : cM ≠ 23) {v₀ : Option Value} (hd : oM.data = .cell v₀) (hb : AllBare s.gens) (hos : s.os = os₀)
    (hkf : env.scope.kind = .function) (hx : env.kindOf x = some .cell) (hc : env.cells.lookup x = some cM)
    (turn : ∀ (i : Nat) (v : Value) (I : Addr) (oI oM : Obj) (s : Shared) (E' : Value → Shared → Prop), i < 6 → marks[i]? = some v → oM.data = .cell (some v) → LoopAt g L cM D ((ax, oA) :: R) os₀ (I, oI) oM i s →
      wpAny (model prog w) A (execs body env) (fun f s' => Shut (f = .next ∧ LoopAt g L cM D ((ax, oA) :: R) os₀ (I, oI) oM (i + 1) s')) E' s)
    (done : ∀ (s : Shared) (m : Str → Option Value) (tab : Array Value) (R' : List (Addr × Obj)), Fr g L s.heap m → News g L s.heap ((23, tabObj tab) :: R') → (∀ p ∈ R, p ∈ R') → AllBare s.gens → s.os = os₀ → Rr (.ok .next) s) :
    wpAny (model prog w) A (pyIter (.ref ax)) (fun it s₂ => codeAny (model prog w) A (.forLoop (.Name x px) it body [] env) Rr s₂) E s := by
  have hla : ∀ h : Heap, h.get? ax = some oA → h.IsList ax marks := fun h e => ⟨oA, e, hl.1, hl.2⟩
  have hax := N (ax, oA) (.head _)
  refine wpAny_pyIter_list (hla _ hax.1) ?_
  obtain ⟨I, hI⟩ : ∃ I : Nat, I = s.heap.objs.size := ⟨_, rfl⟩
  rw [← hI]
  have old : ∀ b o, s.heap.get? b = some o → @LT.lt Nat _ b I := fun b o e => hI ▸ Heap.lt_size e
  have neI : ∀ b o, s.heap.get? b = some o → b ≠ I := fun b o e => Nat.ne_of_lt (old b o e)
  have W := Walks.list (prog := prog) (w := w) hA.handled I ax (neI _ _ hax.1) marks
  obtain ⟨oL, _, _, eL, _⟩ := F.ns
  have hgI : g.get? I = none := Heap.get?_none_of_le (Nat.le_trans F.above (Nat.le_of_lt (old _ _ eL)))
  have hIL : I ≠ L := Ne.symm (neI _ _ eL)
  refine codeAny_forLoop_any
    (fun k s' => ∃ i oI oM v₀, i ≤ 6 ∧ k = 6 - i ∧ s'.heap.IsListIter I ax i ∧ oM.data = .cell v₀ ∧ LoopAt g L cM D ((ax, oA) :: R) os₀ (I, oI) oM i s') ?_ 6 ?_
  · rintro k s' ⟨i, oI, oM, v₀, hi, rfl, hit, hd, m, tab, last, R', F', hm', N', hsub, hne, hneI, hT, hcode, hb', hos'⟩
    have hax' : s'.heap.get? ax = some oA := (N' (ax, oA) (.tail _ (.tail _ (.tail _ (hsub _ (.head _)))))).1
    have hM := N' (cM, oM) (.tail _ (.head _))
    have h23 := N' (23, tabObj tab) (.tail _ (.tail _ (.head _)))
    have hIx := hne _ (.head _)
    by_cases hlt : i < 6
    · refine W.item i _ _ _ (by omega) ⟨hit, hla _ hax'⟩ fun v h₂ tk₂ hPv hst₂ hk₂ => ?_
      have k2 : ∀ b o, b ≠ I → s'.heap.get? b = some o → h₂.get? b = some o := fun b o hb e => hk₂ b o (by simpa using hb) e
      refine wpAny_of_eq (rfl : letOwnedTupleGo (.Name x px) (.ref I) v = pure ()) ?_
      refine wpAny_assign_Name (wpAny_storeName_cell hkf hx hc ⟨oM, k2 cM oM (Ne.symm hIx.2) hM.1, hd⟩ fun h₃ hv₃ hs₃ => ?_)
      obtain ⟨oM', eM', hd'⟩ := hv₃
      obtain ⟨oI', eI', cI'⟩ := hst₂.1
      have up : ∀ b o, b ≠ I → b ≠ cM → s'.heap.get? b = some o → h₃.get? b = some o := fun b o h1 h2 e => (hs₃.2 b h2).trans (k2 b o h1 e)
      have gI : ∀ b o, g.get? b = some o → b ≠ I ∧ b ≠ cM := fun b o e => ⟨(by rintro rfl; rw [hgI] at e; cases e), (by rintro rfl; rw [hM.2.2] at e; cases e)⟩
      refine wpAny_mono (turn i v I oI' oM' _ _ hlt hPv hd' ⟨m, tab, last, R', ⟨F'.ns.at' fun o e => up _ o (Ne.symm hIL) (Ne.symm hM.2.1) e, fun b o e => up b o (gI b o e).1 (gI b o e).2 (F'.keep b o e), F'.above⟩, hm', fun p hp => ?_, hsub, fun p hp => ?_, hneI, hT, hcode, hb', hos'⟩) (fun f s₄ h₄ => ?_) fun _ _ e => e
      · rcases List.mem_cons.mp hp with rfl | hp
        · exact ⟨(hs₃.2 I hIx.2).trans eI', hIL, hgI⟩
        · rcases List.mem_cons.mp hp with rfl | hp
          · exact ⟨eM', hM.2⟩
          · rcases List.mem_cons.mp hp with rfl | hp
            · exact ⟨up _ _ (Ne.symm hIx.1) (Ne.symm hcM) h23.1, h23.2⟩
            · have := N' p (.tail _ (.tail _ (.tail _ hp)))
              exact ⟨up _ _ (hneI p hp) (hne p (.tail _ hp)).2 this.1, this.2⟩
      · rcases List.mem_cons.mp hp with rfl | hp
        · exact hIx
        · exact hne p (.tail _ hp)
      obtain ⟨rfl, L4⟩ := h₄
      obtain ⟨m4, tab4, last4, R4, F4, hm4, N4, r4⟩ := id L4
      exact ⟨6 - (i + 1), by omega, i + 1, oI', oM', _, hlt, rfl, ⟨oI', (N4 (I, oI') (.head _)).1, cI'⟩, hd', L4⟩
    · have : i = 6 := by omega
      subst this
      refine W.done _ _ _ ⟨by rw [hsz]; exact hit, hla _ hax'⟩ fun h₂ tk₂ hk₂ => ?_
      have k2 : ∀ b o, b ≠ I → s'.heap.get? b = some o → h₂.get? b = some o := fun b o hb e => hk₂ b o (by simpa using hb) e
      show wpAny _ _ (pure Flow.next) _ _ _
      refine wpAny_pure (done _ m tab R' ⟨F'.ns.at' fun o e => k2 _ o (Ne.symm hIL) e, fun b o e => k2 b o (by rintro rfl; rw [hgI] at e; cases e) (F'.keep b o e), F'.above⟩ (fun p hp => ?_) (fun p hp => hsub p (.tail _ hp)) hb' hos')
      rcases List.mem_cons.mp hp with rfl | hp
      · exact ⟨k2 _ _ (Ne.symm hIx.1) h23.1, h23.2⟩
      · have := N' p (.tail _ (.tail _ (.tail _ hp)))
        exact ⟨k2 _ _ (hneI p hp) this.1, this.2⟩
  · refine ⟨0, { cls := .type "list_iterator", data := .fields #[.ref ax, .int 0 0] }, oM, v₀, Nat.zero_le _, rfl, ⟨_, Heap.get?_push_at hI rfl, rfl, rfl⟩, hd, m, #[], none, (ax, oA) :: R, F.push _, hm, fun p hp => ?_, fun p hp => hp, fun p hp => ?_, fun p hp => ?_, .t0, fun c e => (by cases e), hb, hos⟩
    · rcases List.mem_cons.mp hp with rfl | hp
      · exact ⟨Heap.get?_push_at hI rfl, hIL, hgI⟩
      · have hp' : p ∈ (ax, oA) :: (cM, oM) :: (23, tabObj #[]) :: R := by
          rcases List.mem_cons.mp hp with rfl | hp
          · exact .tail _ (.head _)
          · rcases List.mem_cons.mp hp with rfl | hp
            · exact .tail _ (.tail _ (.head _))
            · rcases List.mem_cons.mp hp with rfl | hp
              · exact .head _
              · exact .tail _ (.tail _ (.tail _ hp))
        have := N p hp'
        exact ⟨Heap.get?_push_of_some _ this.1, this.2⟩
    · rcases List.mem_cons.mp hp with rfl | hp
      · exact ⟨Ne.symm (neI _ _ (N (23, tabObj #[]) (.tail _ (.tail _ (.head _)))).1), Ne.symm (neI _ _ (N (cM, oM) (.tail _ (.head _))).1)⟩
      · exact hR p hp
    · rcases List.mem_cons.mp hp with rfl | hp
      · exact neI _ _ hax.1
      · exact neI _ _ (N p (.tail _ (.tail _ (.tail _ hp)))).1
end
end Mine

end
section
open PySem PySem.W PySem.Calls PyProof.Rows
namespace Mine
theorem news_three {g h' : Heap} {L a b c : Addr} {oa ob oc : Obj} {m : Str → Option Value} {nx : List (Addr × Obj)} (_F : Fr g L h' m) (ha : h'.get? a = some oa ∧ a ≠ L ∧ g.get? a = none) (hb : h'.get? b = some ob ∧ b ≠ L ∧ g.get? b = none) (hc : h'.get? c = some oc ∧ c ≠ L ∧ g.get? c = none) (N : News g L h' nx) :
    ∃ R, R = (c, oc) :: nx ∧ News g L h' ((a, oa) :: (b, ob) :: R) := by
  refine ⟨_, rfl, fun p hp => ?_⟩
  rcases List.mem_cons.mp hp with rfl | hp
  · exact ha
  · rcases List.mem_cons.mp hp with rfl | hp
    · exact hb
    · rcases List.mem_cons.mp hp with rfl | hp
      · exact hc
      · exact N p hp
theorem lowly_deeper (env : Env) : Lowly (callerA.deeper env) := ⟨rfl, (by decide : callerA.depth + 1 ≤ 390), (by decide : callerA.units + 3 ≤ 390)⟩
abbrev Things.ks {h : Heap} {ax : Addr} {items : Array Value} {ks : List Nat} (_ : Things h ax items ks) : List Nat := ks
theorem room_deeper (env : Env) : (callerA.deeper env).depth < recursionLimit := (by decide : callerA.depth + 1 < recursionLimit)
theorem fmod8 (n : Int) : 0 ≤ Int.fmod n 8 ∧ Int.fmod n 8 < 8 := by rw [Int.fmod_eq_emod_of_nonneg n (by decide)]; exact ⟨Int.emod_nonneg _ (by decide), Int.emod_lt_of_pos _ (by decide)⟩
theorem ne_of_get {h : Heap} {a b : Addr} {o o' : Obj} (ha : h.get? a = some o) (hb : h.get? b = some o') (hn : o.data ≠ o'.data) : a ≠ b := fun e => hn (by rw [e, hb] at ha; cases ha; rfl)
section
variable {g h : Heap} {L : Addr} {x y z : Addr × Obj} {R : List (Addr × Obj)}
theorem news_front (N : News g L h (x :: y :: z :: R)) : News g L h (z :: x :: y :: R) := fun p hp => by
  rcases List.mem_cons.mp hp with rfl | hp
  · exact N _ (.tail _ (.tail _ (.head _)))
  · rcases List.mem_cons.mp hp with rfl | hp
    · exact N _ (.head _)
    · rcases List.mem_cons.mp hp with rfl | hp
      · exact N _ (.tail _ (.head _))
      · exact N _ (.tail _ (.tail _ (.tail _ hp)))
end
/-- what stands apart from the law's own cells and tables -/
theorem apart {g h h' h'' : Heap} {L cM ax : Addr} {oA oM : Obj} {R : List (Addr × Obj)} {ps tab : Array Value} (N : News g L h'' ((ax, oA) :: (cM, oM) :: (23, tabObj tab) :: R)) (hR : R = ((30 : Addr), tabObj ps) :: newSince h h') (h23 : ∃ o, h.get? 23 = some o) (hM : ∃ o, h.get? cM = some o)
    {its : Array Value} {n : Nat} (hA : oA.data = .seq its n) {v₀ : Option Value} (hd : oM.data = .cell v₀) : (∀ p ∈ (ax, oA) :: R, p.1 ≠ 23 ∧ p.1 ≠ cM) ∧ cM ≠ 23 := by
  have nA := N _ (.head _)
  have nM := N _ (.tail _ (.head _))
  have n23 := N _ (.tail _ (.tail _ (.head _)))
  have n30 := N (30, tabObj ps) (.tail _ (.tail _ (.tail _ (hR ▸ .head _))))
  refine ⟨fun p hp => ?_, ne_of_get nM.1 n23.1 (by rw [hd]; intro e; cases e)⟩
  rcases List.mem_cons.mp hp with rfl | hp
  · exact ⟨ne_of_get nA.1 n23.1 (by show oA.data ≠ _; rw [hA]; intro e; cases e), ne_of_get nA.1 nM.1 (by show oA.data ≠ oM.data; rw [hA, hd]; intro e; cases e)⟩
  · rw [hR] at hp
    rcases List.mem_cons.mp hp with rfl | hp
    · exact ⟨(by show (30 : Nat) ≠ 23; decide), ne_of_get n30.1 nM.1 (by show Data.fields ps ≠ oM.data; rw [hd]; intro e; cases e)⟩
    · have := (newSince_of hp).1
      exact ⟨(by rintro e; rw [e] at this; obtain ⟨o, e'⟩ := h23; rw [e'] at this; cases this), (by rintro e; rw [e] at this; obtain ⟨o, e'⟩ := hM; rw [e'] at this; cases this)⟩
theorem things_of {g h h' h'' : Heap} {L D : Addr} {R R' : List (Addr × Obj)} {ys : List Value} {ks : List Nat} {c : Addr × Obj} {pre : List (Addr × Obj)} (hTh : ∀ h'', HasAll h'' (newSince h h') → Things h'' D ys.toArray ks) (hR : R = c :: newSince h h') (N : News g L h'' (pre ++ R')) (hs : ∀ p ∈ R, p ∈ R') :
    Things h'' D ys.toArray ks := hTh _ fun p hp => (N p (List.mem_append_right _ (hs p (hR ▸ .tail _ hp)))).1
theorem marks_at {t0 t1 t2 t3 t4 t5 : Tok} {i : Nat} {v : Value} (hi : i < 6)
    (h : (#[Value.str (Str.ofString "{*}*") t0, Value.str (Str.ofString "{}*") t1, Value.str (Str.ofString "{*}a") t2, Value.str (Str.ofString "{*}ba") t3, Value.str (Str.ofString "{x}*") t4, Value.str (Str.ofString "{y}*") t5] : Array Value)[i]? = some v) :
    ∃ t, v = .str (markOf i) t := by
  rcases (by omega : i = 0 ∨ i = 1 ∨ i = 2 ∨ i = 3 ∨ i = 4 ∨ i = 5) with rfl | rfl | rfl | rfl | rfl | rfl
  all_goals (simp at h; exact ⟨_, h.symm⟩)
end Mine

end
section
open PySem PySem.W PySem.Calls PyProof.Rows
namespace Mine
theorem ns_obj {h : Heap} {a : Addr} {m : Str → Option Value} (x : h.Ns a m) : ∃ o, h.get? a = some o := let ⟨o, _, _, e, _⟩ := x; ⟨o, e⟩
theorem IsName.handed {k : Nat} {u : Value} (x : IsName k u) : handedOut u = pure u := by
  rcases x with ⟨_, t, rfl⟩ | ⟨_, t, rfl⟩ <;> rfl
theorem tag_C {prog : Program} {w : World} {A : Around} {E : Value → Shared → Prop} {s : Shared} {Q : Value → Shared → Prop} {a d : Addr} {v : Value} {expr : Bool} {k : Nat} (T : ThingAt s.heap a d v) (hn : IsName k v) (h : Q v { s with toks := s.toks + 1 }) :
    wpAny (model prog w) A (getAttr (.ref a) "tag" expr) Q E s :=
  let ⟨_, _, e, c1, c2, c3, n⟩ := T
  fn_getAttr e c1 c2 c3 n (by rfl) hn.handed h
section
variable {g h2 h3 h4 : Heap} {L Dt : Addr} {m m' : Str → Option Value} {news : List (Addr × Obj)} {arr : Array Value}
theorem told_led (F2 : Fr g L h2 m) (N2 : News g L h2 news) (hk3 : ∀ b o, h2.get? b = some o → h3.get? b = some o) (hDt : h3.get? Dt = none) (hpl : h4.PlainList Dt arr) (hn4 : h4.Ns L m') (hk4 : ∀ b o, b ≠ L → h2.get? b = some o → h4.get? b = some o) :
    Fr g L h4 m' ∧ ∃ n, News g L h4 ((Dt, W.listOf arr n) :: news) := by
  obtain ⟨oL, _, _, eL, _⟩ := F2.ns
  have fresh : ∀ b, h3.get? b = none → h2.get? b = none := fun b e => by
    cases q : h2.get? b with
    | none => rfl
    | some o => rw [hk3 _ _ q] at e; cases e
  have hD2 := fresh _ hDt
  have hgL : ∀ b o, g.get? b = some o → b ≠ L := fun b o e => Nat.ne_of_lt (Nat.lt_of_lt_of_le (Heap.lt_size e) F2.above)
  obtain ⟨n, en⟩ := hpl
  refine ⟨⟨hn4, fun b o e => hk4 b o (hgL b o e) (F2.keep b o e), F2.above⟩, n, fun p hp => ?_⟩
  rcases List.mem_cons.mp hp with rfl | hp
  · refine ⟨en, ?_, ?_⟩
    · rintro rfl; rw [eL] at hD2; cases hD2
    · show g.get? Dt = none
      cases e : g.get? Dt with
      | none => rfl
      | some o => rw [F2.keep _ _ e] at hD2; cases hD2
  · exact ⟨hk4 _ _ (N2 p hp).2.1 (N2 p hp).1, (N2 p hp).2⟩
end
theorem took_same {h h' : Heap} {D D' : Addr} {items : Array Value} {ks : List Nat} (x : Things h D items ks) (x' : Things h' D' items ks) (i : Nat) : items.toList.filter (took h i) = items.toList.filter (took h' i) := by
  refine List.filter_congr fun v hv => ?_
  obtain ⟨j, hj⟩ := List.getElem?_of_mem hv
  have hj' : items[j]? = some v := by simpa using hj
  obtain ⟨a, d, u, k, e, T, hk, n⟩ := x.at' j v hj'
  obtain ⟨a', d', u', k', e', T', hk', n'⟩ := x'.at' j v hj'
  subst e
  cases e'
  rw [hk] at hk'; cases hk'
  rw [took_eq T n, took_eq T' n']
def WildNo (w : World) (g : Heap) (x : Str) : Prop := ∀ (s : Shared) (Q : Value → Shared → Prop) (E : Value → Shared → Prop) (t : Tok), (∀ b o, g.get? b = some o → s.heap.get? b = some o) → BackB s Q false →
  wpAny (model PySem.Challenge.rw_xb0050_01.row.prog w) A0 (call (.ref 21) [.str x t]) Q E s
section
variable {w : World} {p : Program} {loose : List Str} {mean : ExcName → Option Value} {mg mb : Str → Option Value} {g : Heap}
theorem no_6 (X : (hd.heap_39 w.params).In g) (T : Top p loose mean mg mb g) : WildNo w g (Str.ofString "a") := fun s Q E t k hQ => wild_6 (T.keeps k) t hQ (X.keeps k)
theorem no_7 (X : (hd.heap_39 w.params).In g) (T : Top p loose mean mg mb g) : WildNo w g (Str.ofString "{x}a") := fun s Q E t k hQ => wild_7 (T.keeps k) t hQ (X.keeps k)
theorem no_8 (X : (hd.heap_39 w.params).In g) (T : Top p loose mean mg mb g) : WildNo w g (Str.ofString "*") := fun s Q E t k hQ => wild_8 (T.keeps k) t hQ (X.keeps k)
end
theorem loop_next {g h0 : Heap} {L cM D Dt c' : Addr} {R R' : List (Addr × Obj)} {os₀ : OsState} {x : Addr × Obj} {oM oD oc' : Obj} {i : Nat} {s : Shared} {m : Str → Option Value} {tab tab' : Array Value} {last last' : Option Addr}
    (F : Fr g L s.heap m) (hm : m "things" = some (.ref D)) (N : News g L s.heap ((Dt, oD) :: (c', oc') :: (23, tabObj tab') :: x :: (cM, oM) :: R'))
    (N0 : News g L h0 (x :: (cM, oM) :: (23, tabObj tab) :: R')) (hsub : ∀ p ∈ R, p ∈ R') (hne : ∀ p ∈ x :: R', p.1 ≠ 23 ∧ p.1 ≠ cM) (hneI : ∀ p ∈ R', p.1 ≠ x.1) (hcode : ∀ c, last = some c → ∃ oc, (c, oc) ∈ R' ∧ CodeObj oc)
    (hc' : CodeObj oc') (hfr : h0.get? c' = none ∨ last = some c') (hT : Tab (i + 1) tab' last') (hl : last' = some c' ∨ last' = last) (hb : AllBare s.gens) (hos : s.os = os₀) : LoopAt g L cM D R os₀ x oM (i + 1) s := by
  have n23 := N0 (23, tabObj tab) (.tail _ (.tail _ (.head _)))
  have nM := N0 (cM, oM) (.tail _ (.head _))
  have nx := N0 x (.head _)
  have hcn : c' ≠ 23 ∧ c' ≠ cM ∧ c' ≠ x.1 := by
    rcases hfr with e | e
    · exact ⟨(by rintro rfl; rw [n23.1] at e; cases e), (by rintro rfl; rw [nM.1] at e; cases e), (by rintro rfl; rw [nx.1] at e; cases e)⟩
    · obtain ⟨oc, hm, _⟩ := hcode c' e
      exact ⟨(hne _ (.tail _ hm)).1, (hne _ (.tail _ hm)).2, hneI _ hm⟩
  refine ⟨m, tab', last', (c', oc') :: R', F, hm, fun p hp => ?_, fun p hp => .tail _ (hsub p hp), fun p hp => ?_, fun p hp => ?_, hT, fun c e => ?_, hb, hos⟩
  · rcases List.mem_cons.mp hp with rfl | hp
    · exact N _ (.tail _ (.tail _ (.tail _ (.head _))))
    · rcases List.mem_cons.mp hp with rfl | hp
      · exact N _ (.tail _ (.tail _ (.tail _ (.tail _ (.head _)))))
      · rcases List.mem_cons.mp hp with rfl | hp
        · exact N _ (.tail _ (.tail _ (.head _)))
        · rcases List.mem_cons.mp hp with rfl | hp
          · exact N _ (.tail _ (.head _))
          · exact N _ (.tail _ (.tail _ (.tail _ (.tail _ (.tail _ hp)))))
  · rcases List.mem_cons.mp hp with rfl | hp
    · exact hne _ (.head _)
    · rcases List.mem_cons.mp hp with rfl | hp
      · exact ⟨hcn.1, hcn.2.1⟩
      · exact hne _ (.tail _ hp)
  · rcases List.mem_cons.mp hp with rfl | hp
    · exact hcn.2.2
    · exact hneI _ hp
  · rcases hl with q | q
    · rw [q] at e; cases e; exact ⟨oc', .head _, hc'⟩
    · obtain ⟨oc, h1, h2⟩ := hcode c (q ▸ e)
      exact ⟨oc, .tail _ h1, h2⟩
end Mine

end
section
open PySem PySem.W PySem.Calls PyProof.Rows
namespace Mine
local macro_rules | `(tactic| walk_at "exec Assign cons ListComp") => `(tactic| (k_here; (with_reducible show wpAny _ _ (exec (Stmt.Assign [Expr.Name (PySem.Str.ofString "things") _] _ _) _) _ _ _); refine of_shut ?_))
local macro_rules | `(tactic| walk_at "eval Name") => `(tactic| (k_here; (with_reducible show wpAny _ _ (eval (Expr.Name _ _) (compEnvC _ _ _ _)) _ _ _); k_dflt (refine nameC_G (by assumption) (by assumption) (by assumption) (by k_is) rfl ?_)))
local macro_rules | `(tactic| walk_at "eval Name") => `(tactic| (k_here; (with_reducible show wpAny _ _ (eval (Expr.Name _ _) (compEnvC _ _ _ _)) _ _ _); k_dflt (refine nameC_C (by rfl) (by assumption) (by assumption) ?_)))
local macro_rules | `(tactic| walk_at "eval Name") => `(tactic| (k_here; (with_reducible show wpAny _ _ (eval (Expr.Name _ _) (compEnvC _ _ _ _)) _ _ _); k_dflt (refine nameC_L (by assumption) (by assumption) ?_)))
local macro_rules | `(tactic| walk_at "subscriptTail") => `(tactic| (k_here; k_dflt (refine item_list (by assumption) (by assumption) (by omega) (by assumption) ?_)))
local macro_rules | `(tactic| walk_at "call ref") => `(tactic| (k_here; (with_reducible show wpAny _ _ (call (Value.ref 35) _) _ _ _); refine of_shut ?_))
local macro_rules | `(tactic| walk_at "exec Assign cons ListComp") => `(tactic| (k_here; (with_reducible show wpAny _ _ (exec (Stmt.Assign [Expr.Name (PySem.Str.ofString "told") _] _ _) _) _ _ _); refine of_shut ?_))
local macro_rules | `(tactic| walk_at "call ref") => `(tactic| (k_here; (with_reducible show wpAny _ _ (call (Value.ref 28) _) _ _ _); refine of_shut ?_))
local macro_rules | `(tactic| walk_at "call ref") => `(tactic| (k_here; (with_reducible show wpAny _ _ (call (Value.ref 21) _) _ _ _); refine of_shut ?_))
local macro_rules | `(tactic| walk_at "call ref") => `(tactic| (k_here; (with_reducible show wpAny _ _ (call (Value.ref _) [Value.none, Value.ref _]) _ _ _); refine of_shut ?_))
local macro_rules | `(tactic| walk_at "callWith ref") => `(tactic| (k_here; k_dflt (refine callWith_F (by assumption) ?_)))
local macro_rules | `(tactic| walk_at "call ref") => `(tactic| (k_here; (with_reducible show wpAny _ _ (call (Value.ref 42) _) _ _ _); refine of_shut ?_))
local macro_rules | `(tactic| walk_at "eval Name") => `(tactic| (k_here; (with_reducible show wpAny _ _ (eval (Expr.Name (PySem.Str.ofString "things") _) (envOfC _ _ _ _ _)) _ _ _); k_dflt (refine nameX_L (by assumption) (by assumption) ?_)))
local macro_rules | `(tactic| walk_at "FnAt") => `(tactic| (k_dflt assumption))
local macro_rules | `(tactic| walk_at "getAttr ref") => `(tactic| (k_here; k_dflt (refine tag_C (by assumption) (by assumption) ?_)))
local macro_rules | `(tactic| walk_at "eval ListComp") => `(tactic| (k_here; refine of_shut ?_))
local macro_rules | `(tactic| walk_at "compareOp NotEq ref ref") => `(tactic| (k_here; refine of_shut ?_))
local macro_rules | `(tactic| walk_at "exec For Name List cons nil") => `(tactic| (k_here; (with_reducible show wpAny _ _ (exec (Stmt.For (Expr.Name (PySem.Str.ofString "mark") _) _ _ _ _) _) _ _ _); refine of_shut ?_))
set_option maxHeartbeats 8000000 in
theorem law_go : PySem.Challenge.rw_xb0050_01.Holds := Mine.hd (by
  k_fill
  intro w s₀ s₁ mg mb G Y fa o pm cd doc dV kV ho hd hcd hD hmg hg args vals as hpre hlay hrd hwl hlo
  have KX := km_in_of Y
  km_tabs Y
  have X := (Ground.X G).1
  have V := (Ground.X G).2
  refine Ground.open G ?_
  intro T B D TE TW
  try (refine guard_noD D (by decide +kernel) ?_; clear D)
  km_lay T hmg ho hd cd
  clear hmg
  wrow_args hpre hlay hrd hwl hlo
  all_goals (
    first | refine callC_kw (enter_call ?_) | refine enter_call ?_
    w_top on
    refine law_ends hT9 (fun _ => rfl) ?post ?_
    case post => kc_post
    w_call any ho hd hcd hD T F
    clear hd
    kn_ghosts F T
    k_drop
    skip)
  (all_goals try k_fold)
  k_steps
  all_goals (
    refine to_shut ?_
    with_reducible rename Fr _ _ _ _ => F0
    with_reducible rename News _ _ _ _ => N0
    with_reducible rename Frag.In _ _ => X0
    with_reducible rename Top _ _ _ _ _ (ghostOf _ _) => T0
    with_reducible rename IntsAre _ _ => hI
    with_reducible rename (Heap.IsList (ghostOf _ _) _ _) => hS0
    refine things_K (lowly_deeper _) X0 T0 (by assumption) F0 N0 (by k_dflt k_mem) hI hS0 ?hsz rfl (by rfl) (by with_unfolding_all rfl) (by decide) rfl (by decide) rfl rfl rfl ?hiter ?turn ?hQ
    case hsz => omega
    case hiter => intro Q' hq; exact nameX_L F0 (by rfl) hq
    case turn =>
      intro Cc s' m' n t Q' E' hg hk hn hm hcall
      have e1 := hk _ (.head _) (by show (_ : Nat) ≠ 30; omega)
      have e2 := hk _ (.tail _ (.tail _ (.head _))) (by show (_ : Nat) ≠ 30; omega)
      clear hk
      have e3 : Heap.IsList s'.heap _ _ := ⟨_, e1, rfl, _, rfl⟩
      obtain ⟨r0, r8⟩ := fmod8 n
      obtain ⟨u, hu, hnm⟩ := names_at r0 r8
      k_steps
      all_goals first | exact X0.keeps hg | exact hcall u _ hnm)
  case hQ =>
    intro D h' tk ys ps hys F1 hk e30 Nn hTh
    have n30 := N0 (30, tabObj #[]) (by k_dflt k_mem)
    have n23 := N0 (23, tabObj #[]) (by k_dflt k_mem)
    have nM := N0 _ (.tail _ (.head _))
    have e23 := hk (23, tabObj #[]) (by k_dflt k_mem) (by decide)
    have eM := hk _ (.tail _ (.head _)) (by show (_ : Nat) ≠ 30; omega)
    obtain ⟨R, hR, N1⟩ := news_three F1 ⟨eM, nM.2⟩ ⟨e23, n23.2⟩ ⟨e30, n30.2⟩ Nn
    clear hk Nn N0 F0
    dsimp only at N1 ⊢
    k_steps
    refine to_shut ?_
    refine wpAny_For_shut ?_
    k_steps
    refine to_shut ?_
    with_reducible rename Fr _ _ _ _ => F2
    with_reducible rename News _ _ _ _ => N2
    have hap := apart N2 hR ⟨_, n23.1⟩ ⟨_, nM.1⟩ rfl (by assumption)
    refine loop_marks (D := D) (os₀ := s₁.os) (lowly_deeper _) F2 (by simp) N2 ⟨rfl, _, rfl⟩ rfl hap.1 hap.2 (by assumption) (.of_eq hg) rfl rfl (by rfl) (by rfl) ?turn ?done
    case turn =>
      have hcM := hap.2
      clear hap N2 F2; try clear N1; try clear F1
      intro i v I oI oM s E' hi hv hd L
      obtain ⟨m, tab, last, R', F, hm, N, hsub, hne, hneI, hT, hcode, hb, hos⟩ := L
      obtain ⟨tabf, M, hnext⟩ := mark_turn hi hT X0 T0 (by assumption)
      obtain ⟨tv, rfl⟩ := marks_at hi hv
      clear hv
      generalize markOf i = mark at M hd
      have Th : Things s.heap D ys.toArray _ := things_of (pre := [_, _, _]) hTh hR N (fun p hp => hsub p (.tail _ hp))
      k_steps
      refine to_shut ?_
      refine gen_comp (items := ys.toArray) (pz := fun i' => pass i (Th.ks.getD i' 0)) rfl (room_deeper _) (by rfl) (by with_unfolding_all rfl) (by decide) rfl (by decide) rfl rfl rfl rfl (by simpa using hys) (wpAny_shut ?_)
      k_steps
      refine to_shut ?_
      refine prep_K (lowly_deeper _) F (news_front N) ?hr M (fun c e => let ⟨oc, h1, h2⟩ := hcode c e; ⟨oc, .tail _ (.tail _ h1), h2⟩) ?_
      case hr =>
        intro p hp
        rcases List.mem_cons.mp hp with rfl | hp
        · exact (hne _ (.head _)).1
        · rcases List.mem_cons.mp hp with rfl | hp
          · exact hcM
          · exact (hne _ (.tail _ hp)).1
      intro f h2 tk2 c' oc' F2 N2 hc' hfr hkeep hSel
      have hFn := hSel.1
      k_steps
      refine to_shut ?_
      have Th2 : Things h2 D ys.toArray _ := things_of (pre := [_, _, _, _]) hTh hR N2 (fun p hp => hsub p (.tail _ hp))
      refine hSel.2 _ _ D ys.toArray _ _ _ rfl rfl (lowly_deeper _).depth (lowly_deeper _).units Th2 ?_
      intro a C h3 tk3 st hC hk3 hD3 hst
      refine to_shut ⟨a, _, C, h2, _, rfl, hD3, (ns_obj F2.ns), F2.ns.at' fun o e => hk3 _ o e, ?_⟩
      intro Dt h4 tk4 gs4 yt hDt hl hpl hpass hlen hn4 hk4 hg4
      have hte := told_eq Th2 hpass hlen
      subst hte
      obtain ⟨F4, nt, N4⟩ := told_led F2 N2 hk3 hDt hpl hn4 hk4
      dsimp only at F4 N4 ⊢
      clear hn4 hk4 hpl hl F2 N2
      k_steps
      refine to_shut ?_
      have Th4 : Things h4 D ys.toArray _ := things_of (pre := [_, _, _, _, _]) hTh hR N4 (fun p hp => hsub p (.tail _ hp))
      refine taken_K (i := i) (lowly_deeper _) F4 N4 Th4 (by simpa using hys) (by with_unfolding_all rfl) (by decide) rfl (by decide) rfl rfl ?hiter ?htest ?_
      case hiter => intro Q' hq; exact nameX_L F4 ((if_neg (by decide)).trans hm) hq
      case htest =>
        intro Cc s₃ m₃ a' d' u k E'' hCc hn₃ hm₃ hk₃ hT₃ hnm
        have hg₃ : ∀ b o, (ghostOf s₁.heap [(34, 30), (27, 23)]).get? b = some o → s₃.heap.get? b = some o := fun b o e => hk₃ b o (F4.keep b o e)
        have hM₃ := hk₃ _ _ (N4 _ (.tail _ (.tail _ (.tail _ (.tail _ (.head _)))))).1
        k_steps
        refine to_shut ?_
        refine (lowly_deeper _).from (M.taken _ _ _ _ _ _ hg₃ hnm ?_)
        intro b h' tk' e hk'
        k_steps
        exact to_shut ⟨e, _, _, rfl, hk'⟩
      intro D2 h5 tk5 F5 N5 hk5 hl5
      k_steps
      refine to_shut ?_
      refine ne_same ⟨_, (N5 _ (.head _)).1, rfl, _, rfl⟩ ((took_same Th4 Th2 i) ▸ hl5) (by show callerA.units + 3 < cLine; decide) ?_
      k_steps
      refine to_shut ?_
      refine call_keep_K (r := true) (lowly_deeper _) F5 N5 (fun Q' hb' => M.wild _ _ _ _ F5.keep hb') ?_
      intro h6 tk6 F6 N6
      k_steps
      obtain ⟨last', hT', hl'⟩ := hnext c'
      exact to_shut ⟨rfl, loop_next F6 ((if_neg (by decide)).trans hm) N6 N hsub hne hneI hcode hc' hfr hT' hl' (hg4.bare (hb.push hst)) hos⟩
    case done =>
      clear hap N2 F2; try clear N1; try clear F1
      intro s m tab R' F N hsub hb hos
      dsimp only
      k_steps
      refine to_shut ?_
      refine call_keep_K (r := false) (lowly_deeper _) F N (fun Q' hb' => no_6 X0 T0 _ _ _ _ F.keep hb') ?_
      intro h6 tk6 F6 N6
      k_steps
      refine to_shut ?_
      refine call_keep_K (r := false) (lowly_deeper _) F6 N6 (fun Q' hb' => no_7 X0 T0 _ _ _ _ F6.keep hb') ?_
      intro h7 tk7 F7 N7
      k_steps
      refine to_shut ?_
      refine call_keep_K (r := false) (lowly_deeper _) F7 N7 (fun Q' hb' => no_8 X0 T0 _ _ _ _ F7.keep hb') ?_
      intro h8 tk8 F8 N8
      k_steps
      have hm30 := hsub ((30 : Addr), tabObj ps) (by rw [hR]; exact List.Mem.head _)
      refine to_shut ⟨rfl, F8.keep, hos, hb, fun q hq => ?_⟩
      rcases List.mem_cons.mp hq with rfl | hq
      · exact ⟨_, (N8 _ (.tail _ hm30)).1⟩
      · rw [List.mem_singleton.mp hq]
        exact ⟨_, (N8 _ (.head _)).1⟩)
end Mine

end
theorem PySem.Challenge.cw_xb0050_01_holds : PySem.Challenge.rw_xb0050_01.Holds :=
  Mine.law_go
