import PyProof.Rows.All
import Wide.All
import OpenK.AllK
import Wide.FinOn
import PySem.Challenge.RW_il0043_01
set_option Elab.async false
namespace Mine
open PySem PySem.W PyProof.Rows
set_option maxRecDepth 100000
set_option maxHeartbeats 8000000
open_top hd for PySem.Challenge.rw_il0043_01
end Mine
namespace Mine
open PySem PySem.W PyProof.Rows PySem.Spec PySem.Calls
set_option maxRecDepth 100000
set_option maxHeartbeats 4000000
abbrev listObj (vs : List Value) (n : Nat) : Obj := { cls := .type "list", data := .seq vs.toArray n }
def mwObj (l : Addr) : Obj := { cls := .type "method-wrapper", data := .fields #[.builtin "list.__contains__", .ref l] }
theorem slot_wd_get : Slot "wrapper_descriptor" "__get__" "wrapper_descriptor.__get__" :=
  .of (owner := "wrapper_descriptor") (n := "__get__") (by rw [typeLookup_type, builtinLookup_eq_fast]; kernel_rfl) (by decide +kernel) (by decide +kernel) (by decide +kernel)
    (by first | exact .inl (by decide +kernel) | exact .inr (by decide +kernel)) (by rw [isSubtype_type]; kernel_rfl)
theorem entry_wd_get : entryFor table "wrapper_descriptor.__get__" = some Builtin.«wrapper_descriptor.__get__» := entryFor_of_tree (by kernel_rfl)
theorem args_wd_get (a b c : Value) : argsOk "wrapper_descriptor.__get__" ⟨[a, b, c], []⟩ := by unfold argsOk; kernel_rfl
theorem type_lc : typeOf (.builtin "list.__contains__") = pure (.type "wrapper_descriptor") := by show builtinType _ = _; rw [builtinType_eq_fast]; kernel_rfl
theorem look_lc : typeLookup (.type "list") "__contains__" = pure (some (.builtin "list.__contains__")) := by rw [typeLookup_type, builtinLookup_eq_fast]; kernel_rfl
theorem owner_lc : (kfb_private% "ownerAndName") "list.__contains__" = ("list", "__contains__") := by first | decide +kernel | kernel_rfl
theorem args_wd (a : Addr) : (kfb_private% "getArgs") ⟨[.builtin "list.__contains__", .ref a, .type "list"], []⟩ = pure (.builtin "list.__contains__", some (.ref a), some (.type "list")) := by first | rfl | kernel_rfl
theorem nac_lc : (kfb_private% "nameAndClass") (.builtin "list.__contains__") = pure ((PySem.Str.ofString "__contains__"), .type "list") := by
  show (let (owner, name) := (kfb_private% "ownerAndName") "list.__contains__"; pure ((PySem.Str.ofString name), Value.type owner)) = _
  rw [owner_lc]
theorem run_wd {M : Model} {A : Around} {E : Value → Shared → Prop} {s : Shared} {P : Fin → Shared → Prop} {a : Addr} (hT : s.TypeIs (.ref a) "list") (h : P (.done (.ret (.ref s.heap.objs.size))) { s with heap := s.heap.push (mwObj a) }) :
    wpAny M A (Builtin.«wrapper_descriptor.__get__» ⟨[.builtin "list.__contains__", .ref a, .type "list"], []⟩) P E s := by
  unfold Builtin.«wrapper_descriptor.__get__»
  refine wpAny_bind (wpAny_of_eq (args_wd a) ?_)
  show wpAny _ _ ((kfb_private% "checkInstance") (.builtin "list.__contains__") (.ref a) >>= fun _ => newFields "method-wrapper" [.builtin "list.__contains__", .ref a] >>= fun r => ret r) _ _ _
  refine wpAny_bind ?_
  show wpAny _ _ ((kfb_private% "nameAndClass") (.builtin "list.__contains__") >>= _) _ _ _
  refine wpAny_bind (wpAny_of_eq nac_lc ?_)
  have h1 := sub_list_self
  refine wpAny_bind (wpAny_isInstance hT sub_list_self ?_)
  refine KFB.if_not rfl ?_
  refine wpAny_pure ?_
  exact wpAny_bind (wpAny_newObj_type (wpAny_pure h))
theorem meets_ga_contains (a : Addr) (vs : List Value) (k : Nat) (u : Tok) :
    Meets (Builtin.«object.__getattribute__» ⟨[.ref a, .str "__contains__" u], []⟩) (fun _ R s => s.heap.get? a = some (listObj vs k) ∧ R (.ok (.ret (.ref s.heap.objs.size))) { s with heap := s.heap.push (mwObj a) }) :=
  Meets.of_wp fun prog w A R s hs => by
    obtain ⟨hp, g, d, tk, os⟩ := s
    obtain ⟨hx, hs⟩ := hs
    have hT : (⟨hp, g, d, tk, os⟩ : Shared).TypeIs (.ref a) "list" := ⟨_, hx, rfl⟩
    have h1 := look_lc
    have h2 := type_lc
    have h3 := slot_wd_get.lookup
    have h4 : typeLookup (.type "wrapper_descriptor") "__set__" = pure none := by rw [typeLookup_type, builtinLookup_eq_fast]; kernel_rfl
    have h5 : typeLookup (.type "wrapper_descriptor") "__delete__" = pure none := by rw [typeLookup_type, builtinLookup_eq_fast]; kernel_rfl
    unfold Builtin.«object.__getattribute__»
    repeat (any_goals (first | assumption | wp_step))
    refine codeAny_call_builtin slot_wd_get.plain entry_wd_get (slot_wd_get.check _ _ _ _ _ _ _ _ type_lc (args_wd_get _ _ _) ?_)
    refine run_wd hT ?_
    exact wpAny_pure ⟨_, rfl, hs⟩
theorem list_ga_none : typeLookup (.type "list") "__getattr__" = pure none := list_getattr_none
theorem entry_list_ga : entryFor table "list.__getattribute__" = some Builtin.«object.__getattribute__» :=
  entryFor_alias (id' := "object.__getattribute__") (by kernel_rfl) (by decide +kernel) (by decide +kernel) (by kernel_rfl)
theorem getattr_contains {prog : Program} {w : World} {A : Around} {E : Value → Shared → Prop} {s : Shared} {a : Addr} {vs : List Value} {k : Nat} {Q : Value → Shared → Prop}
    (hx : s.heap.get? a = some (listObj vs k))
    (h : ∀ tk, Q (.ref s.heap.objs.size) { s with heap := s.heap.push (mwObj a), toks := tk }) :
    wpAny (model prog w) A (getAttr (.ref a) "__contains__" true) Q E s := by
  obtain ⟨hp, g, d, tk, os⟩ := s
  have hT : ∀ tk', (⟨hp, g, d, tk', os⟩ : Shared).TypeIs (.ref a) "list" := fun _ => ⟨_, hx, rfl⟩
  have f3 := F.slot_list_getattribute.lookup
  have f4 := F.slot_list_getattribute.bind (.ref a)
  have f5 := list_ga_none
  unfold getAttr getAttrBy
  repeat (any_goals (first | assumption | exact hT _ | ((with_reducible show wpAny _ _ (call (Value.builtin "list.__getattribute__") _ _) _ _ _); refine call_meets F.slot_list_getattribute (hT _) entry_list_ga (F.args_list_getattribute_2 _ _) (meets_ga_contains a vs k _) ⟨hx, ?_⟩) | wp_step))
  show wpAny _ _ (handedOut (.ref hp.objs.size)) _ _ _
  exact wpAny_pure (h _)
section
variable {prog : Program} {w : World} {A : Around} {E : Value → Shared → Prop} {s : Shared} {h₀ : Heap} {L a q : Addr} {m : Str → Option Value} {news : List (Addr × Obj)} {vs : List Value} {k : Nat}
theorem k_getattr_contains {Q : Value → Shared → Prop} (F : Fr h₀ L s.heap m) (N : News h₀ L s.heap news) (hm : (a, listObj vs k) ∈ news)
    (h : ∀ q h' tk, Fr h₀ L h' m → News h₀ L h' ((q, mwObj a) :: news) → (∀ p ∈ news, p.1 < q) → Q (.ref q) { s with heap := h', toks := tk }) :
    wpAny (model prog w) A (getAttr (.ref a) "__contains__" true) Q E s :=
  getattr_contains (N _ hm).1 fun tk => h _ _ tk (F.push _) (N.push F _) fun p hp => Heap.lt_size (N p hp).1
def MwAt (q a : Addr) (h : Heap) : Prop := h.get? q = some (mwObj a)
theorem MwAt.of {h : Heap} (N : News h₀ L h news) (hm : (q, mwObj a) ∈ news) : MwAt q a h := (N _ hm).1
theorem callWith_mw_fields {pos : Pos} {first : List Value} {args : List (Bool × Sem Value)} {Q : Value → Shared → Prop} (hplain : args.any (·.1) = false)
    (h : wpAny (model prog w) A (evalArgs (.ref q) true args []) (fun x s₁ => MwAt q a s₁.heap ∧ wpAny (model prog w) A (call (.ref q) (first ++ x.pos) x.kw) Q E s₁) E s) : wpAny (model prog w) A (callWith pos (.ref q) first args []) Q E s := by
  unfold callWith
  refine wpAny_bind (wpAny_holding (wpAny_mono h (fun x s₁ h₁ => wpAny_bind (wpAny_standAt ?_)) fun _ _ x => x))
  obtain ⟨ho, hcall⟩ := h₁
  simp only [hplain, List.any_nil, Bool.or_false]
  refine wpAny_bind (m := keeperOf (.ref q)) ?_
  unfold keeperOf
  refine wpAny_bind (wpAny_load ho ?_)
  simp only [mwObj, show (Value.type "method-wrapper" != Value.type "method") = true by decide, show (Value.type "method-wrapper" == Value.type "builtin_function_or_method" || Value.type "method-wrapper" == Value.type "method-wrapper") = true by decide, if_true]
  refine wpAny_pure ?_
  exact wpAny_bind (wpAny_mono hcall (fun r s₂ hr => wpAny_bind (wpAny_holding (wpAny_point (wpAny_pure hr)))) fun _ _ x => x)
theorem callWith_mw {pos : Pos} {first : List Value} {env : Env} {e : Expr} {rest : List Expr} {Q : Value → Shared → Prop} (_N : News h₀ L s.heap news) (_hm : (q, mwObj a) ∈ news)
    (h : wpAny (model prog w) A (spliced (backTo pos (starEach (e :: rest) env))) (fun vs s₁ => MwAt q a s₁.heap ∧ wpAny (model prog w) A (call (.ref q) (first ++ vs)) Q E s₁) E s)
    (he : starEach (e :: rest) env = (false, eval e env) :: starEach rest env := by rfl) (hplain : (backTo pos (starEach rest env)).any (·.1) = false := by rfl) :
    wpAny (model prog w) A (callWith pos (.ref q) first (backTo pos (starEach (e :: rest) env)) []) Q E s := by
  rw [he] at h ⊢
  refine callWith_mw_fields (a := a) (by show (false || (backTo pos (starEach rest env)).any (·.1)) = false; rw [hplain]; rfl) ?_
  exact evalArgs_plain h
theorem check_lc {a : Addr} {x : Int} {t : Tok} : checkBoundCall "list.__contains__" ⟨[.ref a, .int x t], []⟩ = pure () := by first | kernel_rfl | rfl
theorem quiet_lc {as : Args} : (Code.builtin "list.__contains__" as).quiet = true := Code.quiet_builtin _ (by decide +kernel)
theorem plain_lc : plainId "list.__contains__" = true := by decide +kernel
theorem entry_lc : entryFor table "list.__contains__" = some Builtin.«list.__contains__» := entryFor_of_tree (by kernel_rfl)
theorem any_ints {vs : List Value} {ns : List Int} (hi : IntsAre vs ns) (x : Int) : ∃ e : Value → Bool, (∀ t, ∀ y, y ∈ vs.toArray → MeetsSeq.EqGives y (.int x t) (e y)) ∧ vs.toArray.any e = ns.contains x := by
  refine ⟨fun v => match v with | .int n _ => n == x | _ => false, fun t y hy => ?_, ?_⟩
  · obtain ⟨i, hi', rfl⟩ := List.getElem_of_mem (List.mem_toArray.mp hy)
    obtain ⟨n, t', e, _⟩ := hi.at i vs[i] (by simp [hi'])
    rw [e]
    exact MeetsSeq.EqGives.int _ _ _ _
  · rw [← Array.any_toList]
    show vs.any _ = _
    induction hi with
    | nil => rfl
    | cons n t _ ih =>
      rw [List.any_cons, ih, List.contains_cons]
      congr 1
      exact Bool.eq_iff_iff.mpr ⟨fun h => beq_iff_eq.mpr (beq_iff_eq.mp h).symm, fun h => beq_iff_eq.mpr (beq_iff_eq.mp h).symm⟩
theorem call_mw {x : Int} {t : Tok} {ns : List Int} {Q : Value → Shared → Prop} (N : News h₀ L s.heap news) (hm : (q, mwObj a) ∈ news) (hl : (a, listObj vs k) ∈ news) (hi : IntsAre vs ns)
    (h : Q (.bool (ns.contains x)) s) : wpAny (model prog w) A (call (.ref q) [.int x t]) Q E s := by
  refine wpAny_call (codeAny_of_tree ?_)
  show wpAny _ A.in1 (callAny (.ref q) ⟨[.int x t], []⟩) _ _ s
  simp only [callAny]
  refine wpAny_bind (wpAny_load (N _ hm).1 ?_)
  simp only [mwObj, show (Value.type "method-wrapper" == Value.type "method" || Value.type "method-wrapper" == Value.type "builtin_function_or_method" || Value.type "method-wrapper" == Value.type "method-wrapper") = true by decide, if_true]
  refine KFB.if_so (by decide) ?_
  refine wpAny_bind (wpAny_of_eq (a := ()) check_lc ?_)
  refine wpAny_bind (wpAny_pure (wpAny_pure ?_))
  obtain ⟨e, he, hany⟩ := any_ints hi x
  refine ⟨quiet_lc, codeAny_builtin entry_lc ?_⟩
  rw [Around.under_plainId plain_lc _]
  exact MeetsSeq.list_contains a vs.toArray k (.int x t) e (he t) prog w A _ s ⟨(N _ hl).1, by rw [hany]; exact h⟩
end
end Mine
namespace Mine
open PySem PySem.W PyProof.Rows PySem.Spec PySem.Calls
set_option maxRecDepth 100000
set_option maxHeartbeats 4000000
def liObj (l : Addr) (i : Nat) : Obj := { cls := .type "list_iterator", data := .fields #[.ref l, .int i 0] }
section
variable {prog : Program} {w : World} {A : Around} {E : Value → Shared → Prop} {s : Shared} {h₀ : Heap} {L a it : Addr} {m : Str → Option Value} {news : List (Addr × Obj)} {vs : List Value} {k i : Nat} {g : Obj → List (Addr × Obj)}
theorem isList_of {h : Heap} (e : h.get? a = some (listObj vs k)) : h.IsList a vs.toArray := ⟨_, e, rfl, _, rfl⟩
theorem k_iter_list {Q : Value → Shared → Prop} (F : Fr h₀ L s.heap m) (N : News h₀ L s.heap news) (hm : (a, listObj vs k) ∈ news)
    (h : ∀ I h', Fr h₀ L h' m → News h₀ L h' ((I, liObj a 0) :: news) → (∀ p ∈ news, p.1 < I) → Q (.ref I) { s with heap := h' }) :
    wpAny (model prog w) A (call (.builtin "iter") [.ref a]) Q E s := by
  refine call_function_entry (by decide +kernel) (by decide +kernel) kdk_entry_iter (kdk_args_iter _) ?_
  unfold Builtin.«iter»
  refine wpAny_bind (m := someArgs "iter" 1 2 _) (wpAny_of_eq (a := [Value.ref a]) (by first | rfl | kernel_rfl!) ?_)
  show wpAny _ _ (pyIter (.ref a) >>= _) _ _ _
  refine wpAny_bind (wpAny_pyIter_list (isList_of (N _ hm).1) ?_)
  exact wpAny_pure ⟨_, rfl, h _ _ (F.push _) (N.push F (liObj a 0)) (fun p hp => Heap.lt_size (N p hp).1)⟩
theorem li_next {h : Heap} (ho : h.get? it = some (liObj a i)) : (h.update it (Obj.mapFields (·.setIfInBounds 1 (rawInt ((i : Int) + 1))))).get? it = some (liObj a (i + 1)) := by
  rw [Heap.get?_update_self _ ho rfl]
  have e : (((i + 1 : Nat) : Int)) = (i : Int) + 1 := by push_cast; rfl
  unfold liObj
  rw [e]
  rfl
theorem special_next_item {x : Value} {Q : Option Value → Shared → Prop} (ho : s.heap.get? it = some (liObj a i)) (hl : s.heap.get? a = some (listObj vs k)) (hx : vs[i]? = some x)
    (hQ : ∀ h', h'.get? it = some (liObj a (i + 1)) → Heap.SameBut it s.heap h' → Q (some x) { s with heap := h' }) :
    wpAny (model prog w) A (callSpecial? (.ref it) (Str.ofString "__next__")) Q E s := by
  have hT : s.TypeIs (.ref it) "list_iterator" := ⟨_, ho, rfl⟩
  have hx' : vs.toArray[i]? = some x := by simpa using hx
  refine wpAny_callSpecial?_slot (name := Str.ofString "__next__") hT slot_listiter_next
    (wpAny_call_entry slot_listiter_next hT entry_listiter_next ?_ (args_listiter_next _))
  show wpAny _ _ (field (.ref it) 0 >>= _) _ _ s
  refine wpAny_bind (wpAny_field ho rfl (x := .ref a) rfl ?_)
  show wpAny _ _ (if (Value.ref a == Value.none) = true then _ else _) _ _ s
  rw [if_neg (show ¬ ((Value.ref a == Value.none) = true) from Bool.false_ne_true)]
  show wpAny _ _ (field (.ref it) 1 >>= _) _ _ s
  refine wpAny_bind (wpAny_field ho rfl (x := .int i 0) rfl ?_)
  show wpAny _ _ (seqItems? (.ref a) >>= _) _ _ s
  refine wpAny_bind (wpAny_seqItems hl rfl ?_)
  simp only [Int.toNat_natCast, hx']
  exact wpAny_bind (wpAny_setField ho rfl (by simp) (wpAny_pure ⟨x, rfl, hQ _ (li_next ho) (Heap.SameBut.update ..)⟩))
theorem special_next_end {Q : Option Value → Shared → Prop} (hh : A.handled = none) (ho : s.heap.get? it = some (liObj a i)) (hl : s.heap.get? a = some (listObj vs k)) (hx : vs[i]? = none)
    (hE : ∀ h₁ h' e, Heap.SameBut it s.heap h₁ → Heap.NewExc h₁ h' e "StopIteration" → E (.ref e) { s with heap := h' }) :
    wpAny (model prog w) A (callSpecial? (.ref it) (Str.ofString "__next__")) Q E s := by
  have hT : s.TypeIs (.ref it) "list_iterator" := ⟨_, ho, rfl⟩
  have hx' : vs.toArray[i]? = none := by simpa using hx
  refine wpAny_callSpecial?_slot (name := Str.ofString "__next__") hT slot_listiter_next
    (wpAny_call_entry slot_listiter_next hT entry_listiter_next ?_ (args_listiter_next _))
  show wpAny _ _ (field (.ref it) 0 >>= _) _ _ s
  refine wpAny_bind (wpAny_field ho rfl (x := .ref a) rfl ?_)
  show wpAny _ _ (if (Value.ref a == Value.none) = true then _ else _) _ _ s
  rw [if_neg (show ¬ ((Value.ref a == Value.none) = true) from Bool.false_ne_true)]
  show wpAny _ _ (field (.ref it) 1 >>= _) _ _ s
  refine wpAny_bind (wpAny_field ho rfl (x := .int i 0) rfl ?_)
  show wpAny _ _ (seqItems? (.ref a) >>= _) _ _ s
  refine wpAny_bind (wpAny_seqItems hl rfl ?_)
  simp only [Int.toNat_natCast, hx']
  refine wpAny_bind (wpAny_rule (wpAny_bind (wpAny_setField ho rfl (by simp) ?_)))
  show wpAny _ _ (newExc (.type "StopIteration") [] >>= _) _ _ _
  refine wpAny_bind ?_
  simp only [newExc, newTuple]
  refine wpAny_bind (wpAny_newObj_type ?_ (by size_fits))
  refine wpAny_bind (m := firstArgMember _ _) (wpAny_of_eq (a := Value.none) (by first | rfl | (simp only [firstArgMember]; rfl)) ?_)
  refine wpAny_newObj_type ?_ (by size_fits)
  simp only [raiseNew]
  refine wpAny_bind (wpAny_handled ?_)
  first | rw [show A.in1.handled = none from hh] | rw [hh]
  refine wpAny_bind (wpAny_pure (wpAny_throw ?_))
  exact hE _ _ _ (Heap.SameBut.update s.heap it (Obj.mapFields (·.setIfInBounds 0 .none))) ⟨fun b o hb => Heap.get?_push_of_some _ (Heap.get?_push_of_some _ hb), Heap.get?_none_of_le (by simp), _, .ref s.heap.objs.size, Heap.get?_push_size _ rfl, rfl, by simp [ownMembersOf]⟩
theorem k_next_item {x : Value} {Q : Value → Shared → Prop} (F : Fr h₀ L s.heap m) (N : News h₀ L s.heap news) (U : UpdF it (liObj a i) news g) (hm : (a, listObj vs k) ∈ news) (hx : vs[i]? = some x)
    (h : ∀ h', Fr h₀ L h' m → News h₀ L h' (g (liObj a (i + 1))) → Q x { s with heap := h' }) :
    wpAny (model prog w) A (call (.builtin "next") [.ref it]) Q E s := by
  obtain ⟨pre, post, hl, hg, h1, h2⟩ := U.split
  have hmem : (it, liObj a i) ∈ news := by rw [hl]; exact List.mem_append_right _ (.head _)
  have hi := N _ hmem
  refine call_function_entry (by decide +kernel) (by decide +kernel) kdk_entry_next (kdk_args_next _) ?_
  unfold Builtin.«next»
  refine wpAny_bind (m := someArgs "next" 1 2 _) (wpAny_of_eq (a := [Value.ref it]) (by first | rfl | kernel_rfl!) ?_)
  dsimp only
  refine wpAny_bind (wpAny_specialOf (name := Str.ofString "__next__") (T := "list_iterator") ⟨_, hi.1, rfl⟩ slot_listiter_next.lookup ?_)
  refine wpAny_ite_split (fun hab => absurd hab (by decide)) (fun _ => ?_)
  refine wpAny_bind (special_next_item hi.1 (N _ hm).1 hx fun h' ho' hs => ?_)
  exact wpAny_pure ⟨_, rfl, h h' (F.change hs hi.2.1 hi.2.2) (hg _ ▸ (show News h₀ L s.heap (pre ++ (it, liObj a i) :: post) from hl ▸ N).setIn h1 h2 hs ho')⟩
theorem k_next_stop {Q : Value → Shared → Prop} (hh : A.handled = none) (F : Fr h₀ L s.heap m) (N : News h₀ L s.heap ((it, liObj a i) :: news)) (hm : (a, listObj vs k) ∈ news) (hoff : ∀ p ∈ news, p.1 ≠ it) (hx : vs[i]? = none)
    (h : ∀ h₁ h' e, Fr h₀ L h₁ m → News h₀ L h₁ news → Heap.NewExc h₁ h' e "StopIteration" → E (.ref e) { s with heap := h' }) :
    wpAny (model prog w) A (call (.builtin "next") [.ref it]) Q E s := by
  have hi := N _ (List.mem_cons_self ..)
  refine call_function_entry (by decide +kernel) (by decide +kernel) kdk_entry_next (kdk_args_next _) ?_
  unfold Builtin.«next»
  refine wpAny_bind (m := someArgs "next" 1 2 _) (wpAny_of_eq (a := [Value.ref it]) (by first | rfl | kernel_rfl!) ?_)
  dsimp only
  refine wpAny_bind (wpAny_specialOf (name := Str.ofString "__next__") (T := "list_iterator") ⟨_, hi.1, rfl⟩ slot_listiter_next.lookup ?_)
  refine wpAny_ite_split (fun hab => absurd hab (by decide)) (fun _ => ?_)
  refine wpAny_bind (special_next_end (by exact hh) hi.1 (N _ (List.mem_cons_of_mem _ hm)).1 hx fun h₁ h' e hs hx => ?_)
  refine h h₁ h' e (F.change hs hi.2.1 hi.2.2) (fun p hp => ?_) hx
  have n := N p (List.mem_cons_of_mem _ hp)
  exact ⟨(hs.2 _ (hoff p hp)).trans n.1, n.2⟩
end
end Mine
namespace Mine
open PySem PySem.W PyProof.Rows PySem.Spec PySem.Calls
set_option maxRecDepth 100000
structure LtT (l : List (Addr × Obj)) (d : Addr) : Prop where
  all : ∀ p ∈ l, p.1 < d
theorem lt_tail {a : Addr × Obj} {l : List (Addr × Obj)} {d : Addr} (h : ∀ p ∈ a :: l, p.1 < d) : ∀ p ∈ l, p.1 < d := fun p hp => h p (List.mem_cons_of_mem _ hp)
theorem LtT.of {l : List (Addr × Obj)} {d : Addr} (h : ∀ p ∈ l, p.1 < d) : LtT l d := ⟨h⟩
theorem LtT.ne {l : List (Addr × Obj)} {d x : Addr} (h : LtT l d) (hd : @LE.le Nat _ d x) : ∀ p ∈ l, p.1 ≠ x := fun p hp e => Nat.lt_irrefl _ (Nat.lt_of_lt_of_le (e ▸ h.all p hp) hd)
def OffT (l : List (Addr × Obj)) (d : Addr) : Prop := ∀ p ∈ l, p.1 ≠ d
def Hold (P : Prop) : Prop := P
theorem Hold.mk {P : Prop} (h : Hold P) : P := h
abbrev ffObj (d mw it : Addr) : Obj := { cls := .ref 56, dict := some d, data := .plain, slots := #[some (.ref mw), some (.ref it)] }
abbrev tab44 (c' : Addr) : Obj := tabObj (#[] ++ #[rawInt 44, rawInt 18, .ref c'])
def LtW (l : List (Addr × Obj)) (d : Addr) : Prop := ∀ p ∈ l, p.1 < d
theorem LtW.of {l : List (Addr × Obj)} {d : Addr} (h : ∀ p ∈ l, p.1 < d) : LtW l d := h
def fullI (fs bs : List Int) (wish : Int) : Int :=
  (fs.filter (fun f => !(fs.filter (fun a => Builtin.bitAnd (Builtin.bitAnd a 4095) wish != wish)).contains f)).foldl (fun a b => Builtin.bitAnd a (Builtin.bitAnd b 4095)) bs.sum
def SubL (own news : List (Addr × Obj)) : Prop := ∀ q ∈ own, q ∈ news
theorem SubL.refl (l : List (Addr × Obj)) : SubL l l := fun _ h => h
theorem news_ne {h₀ h : Heap} {L a b : Addr} {news : List (Addr × Obj)} {o₁ o₂ : Obj} (N : News h₀ L h news) (h1 : (a, o₁) ∈ news) (h2 : (b, o₂) ∈ news) (hc : o₁.cls ≠ o₂.cls) : a ≠ b := fun e => by
  have e1 := (N _ h1).1
  have e2 := (N _ h2).1
  dsimp only at e1 e2
  rw [e, e2] at e1
  cases e1
  exact hc rfl
theorem news_pick {h₀ h : Heap} {L : Addr} {e1 e2 e3 e4 e5 e6 e7 : Addr × Obj} {news : List (Addr × Obj)} (N : News h₀ L h (e1 :: e2 :: e3 :: e4 :: e5 :: e6 :: e7 :: news)) : News h₀ L h (e2 :: e5 :: news) := fun p hp => N p (by
  rcases List.mem_cons.mp hp with rfl | hp
  · exact .tail _ (.head _)
  rcases List.mem_cons.mp hp with rfl | hp
  · exact .tail _ (.tail _ (.tail _ (.tail _ (.head _))))
  · exact .tail _ (.tail _ (.tail _ (.tail _ (.tail _ (.tail _ (.tail _ hp)))))))
theorem LtW.sub {l l' : List (Addr × Obj)} {d : Addr} (h : LtW l d) (hs : ∀ p ∈ l', p ∈ l) : ∀ p ∈ l', p.1 < d := fun p hp => h p (hs p hp)
end Mine
namespace Mine
open PySem PySem.W PyProof.Rows PySem.Spec PySem.Calls
set_option maxRecDepth 100000
set_option maxHeartbeats 4000000
def LeaveT (A₀ : Around) (base : Heap) (outer : List Env) (K : Frag) (p : Program) (loose : List Str) (mean : ExcName → Option Value) (mg mb : Str → Option Value) (g₀ : Heap) (L : Addr) (m : Str → Option Value) (fs : List Addr) (g : Heap) (R : Result → Shared → Prop) (v : Value) (s' : Shared) : Prop :=
  ∃ g' L' m' news', KtsTurn fs g g' ∧ Fr g' L' s'.heap m' ∧ News g' L' s'.heap news' ∧ ∀ h₀', KtsTurn (outer.filterMap (·.frame)) g₀ h₀' → Fr h₀' L s'.heap m → News h₀' L s'.heap news' → Below A₀ base outer h₀' → K.In h₀' → Top p loose mean mg mb h₀' →
    KtsDicts (outer.filterMap (·.frame)) h₀' → R (.ok (.ret v)) s'
theorem LeaveT.intro {A₀ : Around} {base : Heap} {outer : List Env} {K : Frag} {p : Program} {loose : List Str} {mean : ExcName → Option Value} {mg mb : Str → Option Value} {g₀ g g' : Heap} {L L' : Addr} {m m' : Str → Option Value} {fs : List Addr} {R : Result → Shared → Prop} {v : Value} {s' : Shared} {news' : List (Addr × Obj)}
    (F' : Fr g' L' s'.heap m') (N' : News g' L' s'.heap news') (T : KtsTurn fs g g')
    (k : ∀ h₀', KtsTurn (outer.filterMap (·.frame)) g₀ h₀' → Fr h₀' L s'.heap m → News h₀' L s'.heap news' → Below A₀ base outer h₀' → K.In h₀' → Top p loose mean mg mb h₀' → KtsDicts (outer.filterMap (·.frame)) h₀' → R (.ok (.ret v)) s') :
    LeaveT A₀ base outer K p loose mean mg mb g₀ L m fs g R v s' := ⟨g', L', m', news', T, F', N', k⟩
section
variable {prog : Program} {w : World} {A₀ A : Around} {s : Shared} {base h₀ g₀ : Heap} {outer : List Env} {L : Addr} {m : Str → Option Value} {env : Env} {news : List (Addr × Obj)} {K : Frag} {p : Program} {loose : List Str} {mean : ExcName → Option Value} {mg mb : Str → Option Value}
    {R : Result → Shared → Prop} {name qual : Str} {params : Arguments} {body : List Stmt} {scope : Scope} {dV kV doc pm cdv ct oc : Value} {an od : Option Addr} {osl : Array (Option Value)} {f : Addr} {args : Args} {binds : List (Str × Value)}
theorem frames_mem {b : Addr} (hf : env.frame = some L) (hm : b ∈ (env :: outer).filterMap (·.frame)) : b = L ∨ b ∈ outer.filterMap (·.frame) := by
  obtain ⟨e, he, hfe⟩ := List.mem_filterMap.mp hm
  rcases List.mem_cons.mp he with rfl | he
  · exact .inl (Option.some.inj (hfe.symm.trans hf))
  · exact .inr (List.mem_filterMap.mpr ⟨e, he, hfe⟩)
/-- a ground below, turned at the frames' slots alone: what a frame knew of it stands on the turned one -/
theorem turned {h' : Heap} (B : Below A₀ base outer h₀) (F : Fr h₀ L s.heap m) (X : K.In base) (TB : Top p loose mean mg mb base) (D : KtsDicts (outer.filterMap (·.frame)) h₀) (T0 : KtsTurn (outer.filterMap (·.frame)) g₀ h₀)
    (hns : h'.Ns L m) (ho : ∀ b o, h₀.get? b = some o → b ∉ outer.filterMap (·.frame) → h'.get? b = some o) (hs : ∀ b o, h₀.get? b = some o → ∃ sl, h'.get? b = some { o with slots := sl }) :
    ∃ h₀', KtsTurn (outer.filterMap (·.frame)) g₀ h₀' ∧ KtsTurn (outer.filterMap (·.frame)) h₀ h₀' ∧ Fr h₀' L h' m ∧ Below A₀ base outer h₀' ∧ K.In h₀' ∧ Top p loose mean mg mb h₀' ∧ KtsDicts (outer.filterMap (·.frame)) h₀' := by
  obtain ⟨T₁, S₁⟩ := kts_turn_at (h := h') (fs := outer.filterMap (·.frame)) (g := h₀)
    (fun b hb => by
      obtain ⟨_, o, ho', _⟩ := B.frames.mem hb
      exact ⟨o, ho'⟩) ho (fun b o e _ => hs b o e)
  have B₃ : Below A₀ base outer (ktsHeap h' (outer.filterMap (·.frame)) h₀) := ⟨B.stack, fun b o e => T₁.other b o (B.stays b o e) (fun hm => by
    rw [(B.frames.mem hm).1] at e
    cases e), B.frames.of_keeps fun b o e _ => by
    obtain ⟨sl', hs'⟩ := T₁.up e
    exact ⟨_, hs', rfl⟩⟩
  exact ⟨_, T0.trans T₁, T₁, ⟨hns, S₁, by rw [T₁.size]; exact F.above⟩, B₃, X.keeps B₃.stays, TB.keeps B₃.stays, D.turn T₁⟩
theorem groundT (B : Below A₀ base outer h₀) (F : Fr h₀ L s.heap m) (N : News h₀ L s.heap news) (XB : K.In base) (TB : Top p loose mean mg mb base) (D : KtsDicts (outer.filterMap (·.frame)) h₀) (T0 : KtsTurn (outer.filterMap (·.frame)) g₀ h₀)
    (hA : A.frames = some (env :: outer)) (hf : env.frame = some L) (hke : env.scope.kind = .function) :
    KtsDicts ((env :: outer).filterMap (·.frame)) (hideAll s.heap (news.map (·.1))) ∧
      ∀ v s', LeaveT A₀ base outer K p loose mean mg mb g₀ L m ((env :: outer).filterMap (·.frame)) (hideAll s.heap (news.map (·.1))) R v s' → R (.ok (.ret v)) s' := by
  obtain ⟨FG, _, st, _⟩ := groundX (R := R) B F N hA hf hke
  obtain ⟨oL, es, ep, hLg, hLd, hLk, hLf⟩ := FG.ns
  refine ⟨fun b hb => ?_, fun v s' hl => ?_⟩
  · rcases frames_mem hf hb with rfl | hb
    · exact ⟨oL, es, ep, hLg, hLd⟩
    · obtain ⟨o, es', n', ho', hd'⟩ := D b hb
      exact ⟨o, es', n', st b o ho', hd'⟩
  · obtain ⟨g', L', m', news', T', F', N', k⟩ := hl
    have nL₀ : h₀.get? L = none := kts_self F
    obtain ⟨sl, hs⟩ := T'.up hLg
    obtain ⟨h₀', q1, T₁, q2, q3, q4, q5, q6⟩ := turned (h' := s'.heap) B F XB TB D T0 ⟨_, es, ep, F'.keep _ _ hs, hLd, hLk, hLf⟩
      (fun b o e nmem => F'.keep b o (T'.other b o (st b o e) (fun q => by
        rcases frames_mem hf q with z | z
        · rw [z, nL₀] at e
          cases e
        · exact nmem z)))
      (fun b o e => by
        obtain ⟨sl', hs'⟩ := T'.up (st b o e)
        exact ⟨sl', F'.keep _ _ hs'⟩)
    refine k h₀' q1 q2 (fun p hp => ⟨(N' p hp).1, fun q => ?_, ?_⟩) q3 q4 q5 q6
    · have := (N' p hp).2.2; rw [q, hs] at this; cases this
    · refine T₁.none_ _ ?_
      cases q : h₀.get? p.1 with
      | none => rfl
      | some o =>
        obtain ⟨sl', hs'⟩ := T'.up (st _ _ q)
        have := (N' p hp).2.2
        rw [hs'] at this
        cases this
theorem code_defT (B : Below A₀ base outer h₀) (F : Fr h₀ L s.heap m) (X₀ : K.In h₀) (N : News h₀ L s.heap news) (T : Top p loose mean mg mb h₀) (XB : K.In base) (TB : Top p loose mean mg mb base) (D : KtsDicts (outer.filterMap (·.frame)) h₀)
    (T0 : KtsTurn (outer.filterMap (·.frame)) g₀ h₀) (hA : A.frames = some (env :: outer)) (hf : env.frame = some L) (hke : env.scope.kind = .function)
    (ho : K.lookup f = some ⟨oc, od, .func (fnOf name qual params body scope dV kV doc pm an cdv ct), osl⟩) (hcd : codeIn K cdv qual = true) (hroom : A.depth < recursionLimit)
    (hbind : BindsTo s (fnOf name qual params body scope dV kV doc pm an cdv ct) args binds) (hloc : ∀ y ∈ binds, scope.names.lookup y.1 = some .local)
    (h : ∀ g L' h₁, Fr h₀ L g m → Fr g L' h₁ (fun y => binds.reverse.lookup y) → News g L' h₁ news → Below A base (env :: outer) g → K.In g → Top p loose mean mg mb g → KtsDicts ((env :: outer).filterMap (·.frame)) g → (∀ p ∈ news, p.1 < L') →
      wpAny (model prog w) (A.deeper (envOf qual scope L' f cdv)) (execs body (envOf qual scope L' f cdv))
        (fun fl s' => LeaveT A₀ base outer K p loose mean mg mb g₀ L m ((env :: outer).filterMap (·.frame)) g R (match fl with | .ret v => v | _ => .none) s')
        (fun e s' => wpAny (model prog w) (A.deeper (envOf qual scope L' f cdv)) (leaving (envOf qual scope L' f cdv) e) (fun _ s'' => R (.error e) s'') (fun e' s'' => R (.error e') s'') s')
        { s with heap := h₁, toks := s.toks + binds.length })
    (hco : scope.isCoroutine = false) (hgen : scope.isGenerator = false) (hk : scope.kind = .function)
    (hcell : ∀ x ∈ scope.names, x.2 ≠ .cell) : codeAny (model prog w) A (.call (.ref f) args) R s := by
  have X := X₀.keeps F.keep
  obtain ⟨FG, BG, st, _⟩ := groundX (R := R) B F N hA hf hke
  obtain ⟨DG, lv⟩ := groundT (R := R) B F N XB TB D T0 hA hf hke
  refine codeAny_call_def (fd := fnOf name qual params body scope dV kV doc pm an cdv ct) (body := body) (binds := binds) hroom (X _ _ ho) rfl (T.nolimit.keeps F.keep) (codeRec_of X hcd) rfl hbind hcell hloc (fun h₁ hns hk₁ => ?_) hco hgen hk
  exact wpAny_mono (h _ s.heap.objs.size h₁ FG ⟨hns, fun b o e => hk₁ b o (of_hideAll _ e), Nat.le_of_eq (hideAll_size _ _)⟩
    (fun p hp => ⟨hk₁ _ _ (N p hp).1, Nat.ne_of_lt (Heap.lt_size (N p hp).1), hideAll_none _ (List.mem_map_of_mem hp)⟩) BG (X₀.keeps st) (T.keeps st) DG (fun p hp => Heap.lt_size (N p hp).1)) (fun fl s' hl => lv _ _ hl) fun _ _ y => y
theorem code_defTC (B : Below A₀ base outer h₀) (F : Fr h₀ L s.heap m) (X₀ : K.In h₀) (N : News h₀ L s.heap news) (T : Top p loose mean mg mb h₀) (XB : K.In base) (TB : Top p loose mean mg mb base) (D : KtsDicts (outer.filterMap (·.frame)) h₀)
    (T0 : KtsTurn (outer.filterMap (·.frame)) g₀ h₀) (hA : A.frames = some (env :: outer)) (hf : env.frame = some L) (hke : env.scope.kind = .function)
    (ho : K.lookup f = some ⟨oc, od, .func (fnOf name qual params body scope dV kV doc pm an cdv ct), osl⟩) (hcd : codeIn K cdv qual = true) (hroom : A.depth < recursionLimit)
    (hbind : BindsTo s (fnOf name qual params body scope dV kV doc pm an cdv ct) args binds) (hkind : (binds.all fun y => scope.names.lookup y.1 == some .local || scope.names.lookup y.1 == some .cell) = true)
    (hnd : ((cellsFrom 0 scope.names []).map (·.1)).Nodup)
    (h : ∀ g L' h₁ tk cells, Fr h₀ L g m → Fr g L' h₁ (bindL (envOfC qual scope L' f cdv).kindOf binds fun _ => none) → News g L' h₁ (cells ++ news) →
      CellsAre (bindC (envOfC qual scope L' f cdv).kindOf binds fun _ => none) (cellsFrom (L' + 1) scope.names []) cells → Below A base (env :: outer) g → K.In g → Top p loose mean mg mb g → KtsDicts ((env :: outer).filterMap (·.frame)) g → (∀ p ∈ news, p.1 < L') →
      wpAny (model prog w) (A.deeper (envOfC qual scope L' f cdv)) (execs body (envOfC qual scope L' f cdv))
        (fun fl s' => LeaveT A₀ base outer K p loose mean mg mb g₀ L m ((env :: outer).filterMap (·.frame)) g R (match fl with | .ret v => v | _ => .none) s')
        (fun e s' => wpAny (model prog w) (A.deeper (envOfC qual scope L' f cdv)) (leaving (envOfC qual scope L' f cdv) e) (fun _ s'' => R (.error e) s'') (fun e' s'' => R (.error e') s'') s')
        { s with heap := h₁, toks := tk })
    (hco : scope.isCoroutine = false) (hgen : scope.isGenerator = false) (hk : scope.kind = .function) : codeAny (model prog w) A (.call (.ref f) args) R s := by
  have X := X₀.keeps F.keep
  obtain ⟨FG, BG, st, _⟩ := groundX (R := R) B F N hA hf hke
  obtain ⟨DG, lv⟩ := groundT (R := R) B F N XB TB D T0 hA hf hke
  refine codeAny_call_function hroom (X _ _ ho) rfl hco hgen rfl (codeRec_of X hcd) (hbind _ _ _ _ ?_)
  refine wpAny_newFunctionEnv_cells hk (kindsX hkind _) fun env' he s' x => ?_
  subst he
  refine ⟨(T.nolimit.keeps F.keep).keeps x.toInCall.keep, codeAny_func ?_⟩
  obtain ⟨h₁, tk, rfl, _⟩ := x.done
  have hk₁ := x.toInCall.keep
  obtain ⟨cells, NC, Y⟩ := Cl.news (h₀ := s.heap) (Nat.le_refl _) fun n c hm => ⟨x.cell n c (lookup_of_mem_nodup (cellsFrom_names scope.names 0 (s.heap.objs.size + 1) [] [] rfl ▸ hnd) hm), x.above n c hm⟩
  refine wpAny_mono (h _ s.heap.objs.size h₁ tk cells FG ⟨x.toInCall.ns, fun b o e => hk₁ b o (of_hideAll _ e), Nat.le_of_eq (hideAll_size _ _)⟩ (fun p hp => ?_) Y BG (X₀.keeps st) (T.keeps st) DG (fun p hp => Heap.lt_size (N p hp).1)) (fun fl s' hl => lv _ _ hl) fun _ _ y => y
  rcases List.mem_append.mp hp with hp | hp
  · refine ⟨(NC p hp).1, (NC p hp).2.1, ?_⟩
    cases q : (hideAll s.heap (news.map (·.1))).get? p.1 with
    | none => rfl
    | some o => have := of_hideAll _ q; rw [(NC p hp).2.2] at this; cases this
  · exact ⟨hk₁ _ _ (N p hp).1, Nat.ne_of_lt (Heap.lt_size (N p hp).1), hideAll_none _ (List.mem_map_of_mem hp)⟩
theorem kla_codeT {name qual : Str} {params : Arguments} {body : Expr} {scope : Scope} {cl : List (Str × Addr)} {pm ctv : Value} {c' : Addr} {f : Addr} {args : Args} {binds : List (Str × Value)}
    (B : Below A₀ base outer h₀) (F : Fr h₀ L s.heap m) (X₀ : K.In h₀) (N : News h₀ L s.heap news) (T : Top p loose mean mg mb h₀) (XB : K.In base) (TB : Top p loose mean mg mb base) (D : KtsDicts (outer.filterMap (·.frame)) h₀)
    (T0 : KtsTurn (outer.filterMap (·.frame)) g₀ h₀) (hA : A.frames = some (env :: outer)) (hf : env.frame = some L) (hke : env.scope.kind = .function)
    (ho : (f, kla_obj name qual params body scope cl pm c' ctv) ∈ news) (hcd : s.heap.CodeRec (.ref c') qual) (hroom : A.depth < recursionLimit)
    (hbind : bindArgs (kla_fn name qual params body scope cl pm (.ref c') ctv) args = pure binds) (hloc : ∀ y ∈ binds, scope.names.lookup y.1 = some .local)
    (h : ∀ g L' h₁, Fr h₀ L g m → Fr g L' h₁ (fun y => binds.reverse.lookup y) → News g L' h₁ news → Below A base (env :: outer) g → K.In g → Top p loose mean mg mb g → KtsDicts ((env :: outer).filterMap (·.frame)) g → (∀ p ∈ news, p.1 < L') →
      wpAny (model prog w) (A.deeper (envX qual scope L' f (.ref c') cl)) (eval body (envX qual scope L' f (.ref c') cl))
        (fun v s' => LeaveT A₀ base outer K p loose mean mg mb g₀ L m ((env :: outer).filterMap (·.frame)) g R v s')
        (fun e s' => wpAny (model prog w) (A.deeper (envX qual scope L' f (.ref c') cl)) (leaving (envX qual scope L' f (.ref c') cl) e) (fun _ s'' => R (.error e) s'') (fun e' s'' => R (.error e') s'') s')
        { s with heap := h₁, toks := s.toks + binds.length })
    (hco : scope.isCoroutine = false) (hgen : scope.isGenerator = false) (hk : scope.kind = .function)
    (hcell : ∀ x ∈ scope.names, x.2 ≠ .cell) : codeAny (model prog w) A (.call (.ref f) args) R s := by
  obtain ⟨FG, BG, st, _⟩ := groundX (R := R) B F N hA hf hke
  obtain ⟨DG, lv⟩ := groundT (R := R) B F N XB TB D T0 hA hf hke
  refine kla_callFunE hroom (N _ ho).1 rfl hco hgen rfl hcd ?_
  rw [hbind]
  refine wpAny_pure (wpAny_newFunctionEnv hcell hloc (fun h₁ hns hsb => ⟨((T.nolimit).keeps F.keep).fresh _ hsb, ?_⟩) hk)
  show codeAny _ _ (.expr body (envX qual scope s.heap.objs.size f (.ref c') cl)) _ _
  have hk₁ : ∀ b o, s.heap.get? b = some o → h₁.get? b = some o := fun b o e => hsb.extBut b o (Nat.ne_of_lt (Heap.lt_size e)) (Heap.get?_push_of_some _ e)
  exact kla_codeExpr (wpAny_mono (h _ s.heap.objs.size h₁ FG ⟨hns, fun b o e => hk₁ b o (of_hideAll _ e), Nat.le_of_eq (hideAll_size _ _)⟩
    (fun p hp => ⟨hk₁ _ _ (N p hp).1, Nat.ne_of_lt (Heap.lt_size (N p hp).1), hideAll_none _ (List.mem_map_of_mem hp)⟩) BG (X₀.keeps st) (T.keeps st) DG (fun p hp => Heap.lt_size (N p hp).1)) (fun v s' hl => lv _ _ hl) fun _ _ y => y)
end
section
variable {M : Model} {A₀ : Around} {base g g₀ G h₅ : Heap} {outer : List Env} {L e : Addr} {m : Str → Option Value} {env : Env} {news : List (Addr × Obj)} {K : Frag} {p : Program} {loose : List Str} {mean : ExcName → Option Value} {mg mb : Str → Option Value}
/-- an exception that left a callee, caught by the machine: what the caller's frame knows then -/
theorem back_stop {X : String} (B : Below A₀ base outer g) (F : Fr g L G m) (XB : K.In base) (TB : Top p loose mean mg mb base) (D : KtsDicts (outer.filterMap (·.frame)) g) (T0 : KtsTurn (outer.filterMap (·.frame)) g₀ g)
    (hf : env.frame = some L) (R : RaisedSN base G (env :: outer) e (.type X) news h₅) (hsm : G.UpToSlots h₅) :
    ∃ g', KtsTurn (outer.filterMap (·.frame)) g₀ g' ∧ Fr g' L h₅ m ∧ News g' L h₅ news ∧ Below A₀ base outer g' ∧ K.In g' ∧ Top p loose mean mg mb g' ∧ KtsDicts (outer.filterMap (·.frame)) g' ∧ ∃ ob, h₅.get? e = some ob ∧ ob.cls = .type X := by
  obtain ⟨BB, a0, hB, hBG, hl, hfl⟩ := R
  have hL : BB.get? L = none := by
    obtain ⟨_, ⟨L', _, hf', hn', _⟩, _⟩ := hfl.2.2.1
    obtain rfl : L = L' := Option.some.inj (hf.symm.trans hf')
    exact hn'
  have keepO : ∀ b o, g.get? b = some o → b ∉ outer.filterMap (·.frame) → h₅.get? b = some o := fun b o e nm => hfl.1 b o (hBG b o (F.keep b o e) (fun hm => by
    rcases frames_mem hf hm with z | z
    · rw [z, kts_self F] at e; cases e
    · exact nm z))
  obtain ⟨T, S⟩ := kts_turn_at (h := h₅) (fs := outer.filterMap (·.frame)) (g := g)
    (fun b hb => by
      obtain ⟨_, o, ho, _⟩ := B.frames.mem hb
      exact ⟨o, ho⟩) keepO
    (fun b o e hm => by
      obtain ⟨_, o', ho', hd⟩ := B.frames.mem hm
      rw [e] at ho'
      cases ho'
      exact hsm b o (F.keep b o e) hd)
  have B₃ : Below A₀ base outer (ktsHeap h₅ (outer.filterMap (·.frame)) g) := ⟨B.stack, fun b o e => T.other b o (B.stays b o e) (fun hm => by
    rw [(B.frames.mem hm).1] at e
    cases e), B.frames.of_keeps fun b o e _ => by
    obtain ⟨sl, hs⟩ := T.up e
    exact ⟨_, hs, rfl⟩⟩
  refine ⟨_, T0.trans T, ⟨hsm.ns F.ns, S, by rw [T.size]; exact F.above⟩, fun q hq => ⟨hfl.1 _ _ (hl q hq).1, (fun z => by have := (hl q hq).1; rw [z, hL] at this; cases this), T.none_ _ (kts_none F.keep (hl q hq).2.1)⟩, B₃, XB.keeps B₃.stays, TB.keeps B₃.stays, D.turn T, hfl.there⟩
end
section
variable {prog : Program} {w : World} {A : Around} {E : Value → Shared → Prop} {s : Shared} {env : Env} {test : PySem.Expr} {body orelse : List Stmt} {Q : Flow → Shared → Prop} {g : Heap} {L : Addr} {m : Str → Option Value} {i₀ : Nat}
theorem fr_item {h₀ h : Heap} {x : Str} (F : Fr h₀ L h m) : Fr h₀ L h (fun z => if z = x then m z else m z) := by
  have e : (fun z => if z = x then m z else m z) = m := by funext z; split <;> rfl
  rw [e]; exact F
theorem fr_again {h₀ h : Heap} {x : Str} {u : Str → Option Value} {v : Value} (F : Fr h₀ L h (fun z => if z = x then some v else if z = x then u z else m z)) : Fr h₀ L h (fun z => if z = x then (fun _ => some v) z else m z) := by
  have e : (fun z => if z = x then some v else if z = x then u z else m z) = (fun z => if z = x then (fun _ => some v) z else m z) := by
    funext z
    by_cases h : z = x <;> simp [h]
  rw [← e]; exact F
theorem whl_ind (y : Str) (J : Nat → List (Addr × Obj)) (top : Nat) (C : Nat → Prop) (F : Fr g L s.heap m) (N : News g L s.heap (J i₀)) (hC : C i₀)
    (turn : ∀ (i : Nat) (u : Str → Option Value) (h : Heap) (tk : Nat), C i → Fr g L h (fun z => if z = y then u z else m z) → News g L h (J i) →
      (∀ (u' : Str → Option Value) (h' : Heap) (tk' : Nat), i < top → C (i + 1) → Fr g L h' (fun z => if z = y then u' z else m z) → News g L h' (J (i + 1)) → WhlRest prog w A E env test body orelse Q 0 { s with heap := h', toks := tk' }) →
      WhlRest prog w A E env test body orelse Q 1 { s with heap := h, toks := tk }) : WhlRest prog w A E env test body orelse Q 1 s := by
  have key : ∀ (n i : Nat) (u : Str → Option Value) (h : Heap) (tk : Nat), top - i = n → C i → Fr g L h (fun z => if z = y then u z else m z) → News g L h (J i) → WhlRest prog w A E env test body orelse Q 1 { s with heap := h, toks := tk } := by
    intro n
    induction n with
    | zero => exact fun i u h tk hn c F N => turn i u h tk c F N fun u' h' tk' hlt => absurd hlt (by omega)
    | succ n ih => exact fun i u h tk hn c F N => turn i u h tk c F N fun u' h' tk' hlt c' F' N' => ih (i + 1) u' h' tk' (by omega) c' F' N'
  exact key _ i₀ m s.heap s.toks rfl hC (fr_item F) N
theorem news_both {h₀ h : Heap} {l₁ l₂ : List (Addr × Obj)} (N₁ : News h₀ L h l₁) (N₂ : News h₀ L h l₂) : News h₀ L h (l₁ ++ l₂) := fun p hp => (List.mem_append.mp hp).elim (N₁ p) (N₂ p)
end
end Mine
namespace Mine
open PySem PySem.W PyProof.Rows PySem.Spec PySem.Calls
set_option maxRecDepth 100000
set_option maxHeartbeats 4000000
/-- what a callable of two ints gives, whatever frame calls it -/
def FnInt (prog : Program) (w : World) (K : Frag) (p : Program) (loose : List Str) (mean : ExcName → Option Value) (mg mb : Str → Option Value) (base : Heap) (f : Addr) (own : List (Addr × Obj)) (d0 : Nat) (G : Int → Int → Int) : Prop :=
  ∀ (dp un : Nat) (gd : Option (List Code)) (cn : Str) (cs : Scope) (a : Addr) (ccd : Value) (cl : List (Str × Addr)) (outer : List Env) (A₀ : Around) (h₀ : Heap) (L : Addr) (m : Str → Option Value) (s : Shared) (Q E : Value → Shared → Prop) (news : List (Addr × Obj)) (x y : Int) (tx ty : Tok),
    Below A₀ base outer h₀ → Fr h₀ L s.heap m → K.In h₀ → News h₀ L s.heap news → Top p loose mean mg mb h₀ → cs.kind = .function → dp + d0 < recursionLimit → (∀ q ∈ own, q ∈ news) →
    (∀ (t : Tok) (h' : Heap) (tk' : Nat), Fr h₀ L h' m → News h₀ L h' news → Q (.int (G x y) t) { s with heap := h', toks := tk' }) →
    wpAny (model prog w) (ktrTop dp un gd cn cs L a ccd cl outer) (call (.ref f) [.int x tx, .int y ty]) Q E s
section
variable {prog : Program} {w : World} {A : Around} {E : Value → Shared → Prop} {s : Shared} {env : Env} {h₀ : Heap} {x : Str} {body : List Stmt} {Q : Flow → Shared → Prop}
theorem loop_acc1 {I : Addr} {fp wr : List Addr} {n : Nat} {P : Nat → Value → Prop} {St : Nat → Heap → Prop} {m₀ : Str → Option Value} {news : List (Addr × Obj)} {ks : List Int} {y : Str} {c₀ : Int} {tc : Tok} (g : Int → Int → Int)
    (W : Walks prog w A I fp wr n P St) (hks : ItemsAre n P ks) (hLf : env.locals ∉ fp) (hwr : ∀ b ∈ wr, h₀.get? b = none) (hnw : ∀ p ∈ news, p.1 ∉ wr) (hfp : ∀ q ∈ news, q.1 ∉ fp) (hst : St 0 s.heap) (F : Fr h₀ env.locals s.heap m₀) (N : News h₀ env.locals s.heap news) (hy : m₀ y = some (.int c₀ tc))
    (turn : ∀ k t a ta h tk own, k ∈ ks → OwnOff own (news.map (·.1)) → Fr h₀ env.locals h (fun z => if z = x then some (.int k t) else if z = y then some (.int a ta) else m₀ z) → News h₀ env.locals h (news ++ own) →
      wpAny (model prog w) A (execs body env) (InvPostN h₀ env.locals (fun m' nx => nx = news ∧ (∃ t', m' y = some (.int (g a k) t')) ∧ ∀ z, z ≠ x → z ≠ y → m' z = m₀ z) own (news.map (·.1)) { s with heap := h, toks := tk } Q) E { s with heap := h, toks := tk })
    (done : ∀ (u : Str → Option Value) t h tk, Fr h₀ env.locals h (fun z => if z = x then u z else if z = y then some (.int (ks.foldl g c₀) t) else m₀ z) → News h₀ env.locals h news → Q .next { s with heap := h, toks := tk }) :
    LoopAtV prog w A h₀ env x body Q E (.ref I) s := by
  refine loop_accS (fun a m nx => nx = news ∧ (∃ t, m y = some (.int a t)) ∧ ∀ z, z ≠ x → z ≠ y → m z = m₀ z) g c₀ W hks hLf hwr hnw hfp hst F N ⟨rfl, ⟨tc, hy⟩, fun _ _ _ => rfl⟩ ?_ ?_
  · rintro k t a m₁ nx h tk own hk hoff ⟨rfl, ⟨ta, ha⟩, hm⟩ F₁ N₁
    rw [map_one ha hm] at F₁
    exact turn k t a ta h tk own hk hoff F₁ N₁
  · rintro m₁ nx h tk ⟨rfl, ⟨t, ha⟩, hm⟩ F₁ N₁
    refine done m₁ t h tk ?_ N₁
    rw [done_one ha hm]; exact F₁
/-- a for over a list's own iterator, one name of ints folded -/
theorem for_listiter {px pos : Pos} {nm : Str} {np : Pos} {I S : Addr} {m₀ : Str → Option Value} {news : List (Addr × Obj)} {vs : List Value} {c : Nat} {ks : List Int} {y : Str} {c₀ : Int} {tc : Tok} (g : Int → Int → Int)
    (hh : A.handled = none) (F : Fr h₀ env.locals s.heap m₀) (N : News h₀ env.locals s.heap ((I, liObj S 0) :: (S, listObj vs c) :: news)) (hI : OffT news I) (hS : OffT news S) (hIS : S ≠ I) (hi : IntsAre vs ks) (hy : m₀ y = some (.int c₀ tc))
    (hev : ∀ (Q' : Value → Shared → Prop), Q' (.ref I) s → wpAny (model prog w) A (eval (.Name nm np) env) Q' E s)
    (hx : env.kindOf x = some .local) (hp : (env.scope.kind == .class || (env.scope.kind == .module && env.locals != env.globals)) = false)
    (turn : ∀ k t a ta h tk own, k ∈ ks → OwnOff own (news.map (·.1)) → Fr h₀ env.locals h (fun z => if z = x then some (.int k t) else if z = y then some (.int a ta) else m₀ z) → News h₀ env.locals h (news ++ own) →
      wpAny (model prog w) A (execs body env) (InvPostN h₀ env.locals (fun m' nx => nx = news ∧ (∃ t', m' y = some (.int (g a k) t')) ∧ ∀ z, z ≠ x → z ≠ y → m' z = m₀ z) own (news.map (·.1)) { s with heap := h, toks := tk } Q) E { s with heap := h, toks := tk })
    (done : ∀ (u : Str → Option Value) t h tk, Fr h₀ env.locals h (fun z => if z = x then u z else if z = y then some (.int (ks.foldl g c₀) t) else m₀ z) → News h₀ env.locals h news → Q .next { s with heap := h, toks := tk })
    (hE : PassesOwn (model prog w) A env E) :
    wpAny (model prog w) A (exec (.For (.Name x px) (.Name nm np) body [] pos) env) Q E s := by
  refine For_invVF F hx hp (hev _ ?_) (fun _ => rfl) hE
  have nI := N _ (.head _)
  have nS := N _ (.tail _ (.head _))
  have W := Walks.list (prog := prog) (w := w) (A := A) hh I S hIS vs.toArray
  have hlen : vs.toArray.size = ks.length := by simp [hi.length]
  rw [hlen] at W
  have hst : s.heap.IsListIter I S 0 ∧ s.heap.IsList S vs.toArray := ⟨⟨_, nI.1, rfl, rfl⟩, ⟨_, nS.1, rfl, _, rfl⟩⟩
  refine W.self 0 s _ _ hst ?_
  have hoff : ∀ q ∈ news, q.1 ∉ [I, S] := fun q hq hm => by
    rcases List.mem_cons.mp hm with e | hm
    · exact hI q hq e
    · exact hS q hq (List.mem_singleton.mp hm)
  refine loop_acc1 g W ⟨rfl, fun i v hi' hP => ?_⟩ ?_ ?_ ?_ hoff hst F (fun p hp => N p (.tail _ (.tail _ hp))) hy turn done
  · obtain ⟨n, t, rfl, hn⟩ := hi.at i v (by simpa using hP)
    exact ⟨n, t, hn, rfl⟩
  · intro hm
    rcases List.mem_cons.mp hm with e | hm
    · exact nI.2.1 e.symm
    · exact nS.2.1 (List.mem_singleton.mp hm).symm
  · intro b hb
    rw [List.mem_singleton.mp hb]
    exact nI.2.2
  · exact fun p hp hm => hI p hp (List.mem_singleton.mp hm)
end
end Mine
namespace Mine
open PySem PySem.W PyProof.Rows PySem.Spec PySem.Calls
set_option maxRecDepth 100000
set_option maxHeartbeats 4000000
/-- an iterator object that the call holds: it gives item i, and stands at i + 1; behind the last it ends -/
structure Iter (prog : Program) (w : World) (A : Around) (I : Addr) (aux : List (Addr × Obj)) (It : Nat → Obj → Prop) (val : Nat → Value → Prop) (top : Nat) : Prop where
  next : ∀ (i : Nat) (s : Shared) (o : Obj) (Q : Option Value → Shared → Prop) (E : Value → Shared → Prop), i < top → It i o → s.heap.get? I = some o → (∀ p ∈ aux, s.heap.get? p.1 = some p.2) →
    (∀ v h' o' tk', val i v → It (i + 1) o' → h'.get? I = some o' → Heap.SameBut I s.heap h' → Q (some v) { s with heap := h', toks := tk' }) → wpAny (model prog w) A (pyNext (.ref I)) Q E s
  stop : ∀ (s : Shared) (o : Obj) (Q : Option Value → Shared → Prop) (E : Value → Shared → Prop), It top o → s.heap.get? I = some o → (∀ p ∈ aux, s.heap.get? p.1 = some p.2) →
    (∀ h' tk', (∀ b ob, b ≠ I → s.heap.get? b = some ob → h'.get? b = some ob) → Q none { s with heap := h', toks := tk' }) → wpAny (model prog w) A (pyNext (.ref I)) Q E s
section
variable {prog : Program} {w : World} {A A₀ : Around} {E : Value → Shared → Prop} {s : Shared} {env : Env} {x : Str} {body : List Stmt} {Q : Flow → Shared → Prop} {base g : Heap} {outer : List Env} {K : Frag} {p : Program} {loose : List Str} {mean : ExcName → Option Value} {mg mb : Str → Option Value} {L I : Addr}
  {aux : List (Addr × Obj)} {It : Nat → Obj → Prop} {val : Nat → Value → Prop} {top : Nat}
theorem forT (W : Iter prog w A I aux It val top) (J : Nat → (Str → Option Value) → List (Addr × Obj) → Prop) (haux : ∀ i m news, J i m news → ∀ p ∈ aux, p ∈ news)
    (turn : ∀ (i : Nat) (v : Value) (g' : Heap) (m : Str → Option Value) (h : Heap) (tk : Nat) (news : List (Addr × Obj)) (o : Obj) (rest : Shared → Prop), i < top → val i v → OffT news I → J i m news → KtsTurn (outer.filterMap (·.frame)) g g' → Fr g' L h m → News g' L h ((I, o) :: news) →
      Below A₀ base outer g' → K.In g' → Top p loose mean mg mb g' → KtsDicts (outer.filterMap (·.frame)) g' →
      (∀ (g'' : Heap) (m' : Str → Option Value) (h' : Heap) (tk' : Nat) (news' : List (Addr × Obj)), KtsTurn (outer.filterMap (·.frame)) g g'' → Fr g'' L h' m' → News g'' L h' ((I, o) :: news') → OffT news' I → J (i + 1) m' news' → Below A₀ base outer g'' → K.In g'' → Top p loose mean mg mb g'' → KtsDicts (outer.filterMap (·.frame)) g'' →
        rest { s with heap := h', toks := tk' }) →
      wpAny (model prog w) A (storeName env x v) (fun _ s₂ => wpAny (model prog w) A (execs body env) (OwitFlow Q rest) E s₂) E { s with heap := h, toks := tk })
    (done : ∀ (g' : Heap) (m : Str → Option Value) (h : Heap) (tk : Nat) (news : List (Addr × Obj)), J top m news → KtsTurn (outer.filterMap (·.frame)) g g' → Fr g' L h m → News g' L h news → Below A₀ base outer g' → K.In g' → Top p loose mean mg mb g' → KtsDicts (outer.filterMap (·.frame)) g' →
      Q .next { s with heap := h, toks := tk }) :
    ∀ (k i : Nat) (g' : Heap) (m : Str → Option Value) (h : Heap) (tk : Nat) (news : List (Addr × Obj)) (o : Obj), top - i < k → i ≤ top → It i o → OffT news I → J i m news → KtsTurn (outer.filterMap (·.frame)) g g' → Fr g' L h m → News g' L h ((I, o) :: news) →
      Below A₀ base outer g' → K.In g' → Top p loose mean mg mb g' → KtsDicts (outer.filterMap (·.frame)) g' → OwitRest prog w A E env x body Q I k { s with heap := h, toks := tk } := by
  intro k
  induction k with
  | zero => exact fun i g' m h tk news o hk => absurd hk (Nat.not_lt_zero _)
  | succ k ih =>
    intro i g' m h tk news o hk hi hit hoff hJ TT F N B X T D
    have nI := N _ (.head _)
    have hax : ∀ p ∈ aux, h.get? p.1 = some p.2 := fun p hp => (N p (.tail _ (haux i m news hJ p hp))).1
    by_cases hlt : i < top
    · refine W.next i _ o _ _ hlt hit nI.1 hax fun v h' o' tk' hv hit' ho' hs => ?_
      show wpAny _ _ _ _ _ _
      refine turn i v g' m h' tk' news o' _ hlt hv hoff hJ TT (F.change hs nI.2.1 nI.2.2) (fun q hq => ?_) B X T D fun g'' m' h'' tk'' news' TT' F' N' hoff' hJ' B' X' T' D' => ih (i + 1) g'' m' h'' tk'' news' o' (by omega) (by omega) hit' hoff' hJ' TT' F' N' B' X' T' D'
      rcases List.mem_cons.mp hq with rfl | hq
      · exact ⟨ho', nI.2⟩
      · have n := N q (.tail _ hq)
        exact ⟨(hs.2 _ (hoff q hq)).trans n.1, n.2⟩
    · have e : i = top := by omega
      subst e
      refine W.stop _ o _ _ hit nI.1 hax fun h' tk' hx => ?_
      show Q .next _
      obtain ⟨oL, es, ep, hL, hr⟩ := F.ns
      refine done g' m h' tk' news hJ TT ⟨⟨oL, es, ep, hx _ _ (Ne.symm nI.2.1) hL, hr⟩, fun b ob e => hx b ob (fun q => ?_) (F.keep b ob e), F.above⟩ (fun q hq => ?_) B X T D
      · have := nI.2.2
        rw [← q, e] at this; cases this
      · have n := N q (.tail _ hq)
        exact ⟨hx _ _ (hoff q hq) n.1, n.2⟩
end
section
variable {prog : Program} {w : World} {A : Around}
def tiIs (T : Addr) (i : Nat) (o : Obj) : Prop := ∀ (h : Heap) (I : Addr), h.get? I = some o → h.IsTupleIter I T i
theorem iter_tuple (hh : A.handled = none) (I T : Addr) (items : Array Value) (ot : Obj) (hT : ot.cls = .type "tuple" ∧ ∃ n, ot.data = .seq items n) :
    Iter prog w A I [(T, ot)] (tiIs T) (fun i v => items[i]? = some v) items.size where
  next := fun i s o Q E hi hit ho haux hQ => by
    have hT' : s.heap.IsTuple T items := ⟨ot, haux _ (.head _), hT.1, hT.2⟩
    refine wpAny_pyNext_tuple_item (hit _ _ ho) hT' (x := items[i]) (by simp [hi]) fun h' hit' hs => ?_
    obtain ⟨o', ho', hr⟩ := id hit'
    exact hQ _ h' o' s.toks (by simp [hi]) (fun h2 I2 e2 => ⟨o', e2, hr⟩) ho' hs
  stop := fun s o Q E hit ho haux hQ => by
    have hT' : s.heap.IsTuple T items := ⟨ot, haux _ (.head _), hT.1, hT.2⟩
    exact wpAny_pyNext_tuple_end hh (hit _ _ ho) hT' (by simp) fun h' he' => hQ h' s.toks fun b o hb e => he' b o hb e
def riIs (n : Nat) (i : Nat) (o : Obj) : Prop := o = { cls := .type "range_iterator", data := .fields #[rawInt (i : Int), rawInt ((n : Int) - (i : Int)), rawInt 1] }
theorem iter_range (hh : A.handled = none) (I : Addr) (n : Nat) : Iter prog w A I [] (riIs n) (fun i v => ∃ t, v = .int (i : Int) t) n where
  next := fun i s o Q E hi hit ho haux hQ => by
    subst hit
    have hr : IsRangeIter s.heap I (i : Int) ((n : Int) - (i : Int)) 1 := ho
    refine wpAny_pyNext_range_item hr (by omega) fun h' hit' hs => ?_
    have e : (((i + 1 : Nat) : Int)) = (i : Int) + 1 := by push_cast; rfl
    refine hQ _ h' _ _ ⟨_, rfl⟩ rfl ?_ hs
    rw [e, show (n : Int) - ((i : Int) + 1) = (n : Int) - (i : Int) - 1 from by omega]
    exact hit'
  stop := fun s o Q E hit ho haux hQ => by
    subst hit
    have hr : IsRangeIter s.heap I (n : Int) ((n : Int) - (n : Int)) 1 := ho
    exact wpAny_pyNext_range_end hh hr (by omega) fun h' he' => hQ h' s.toks fun b o hb e => he' b o hb e
end
def tryI (fs bs : List Int) (last : Int) (p : Nat) : Option Int :=
  if Builtin.bitAnd last (bs.getD p 0) = 0 then
    if Builtin.bitAnd (fullI fs bs (Builtin.bitAnd last (bs.take p).sum + bs.getD p 0)) (bs.take p).sum = Builtin.bitAnd last (bs.take p).sum then some (fullI fs bs (Builtin.bitAnd last (bs.take p).sum + bs.getD p 0)) else none
  else none
def stepI (fs bs : List Int) (last : Int) : List Int :=
  match tryI fs bs last 3, tryI fs bs last 2, tryI fs bs last 1, tryI fs bs last 0 with
  | some m, _, _, _ => [m]
  | none, some m, _, _ => [m]
  | none, none, some m, _ => [m]
  | none, none, none, some m => [m]
  | none, none, none, none => []
def JTup (news₀ : List (Addr × Obj)) (m₁ : Str → Option Value) (ys : List Str) (P : Nat → Prop) (i : Nat) (m : Str → Option Value) (news : List (Addr × Obj)) : Prop :=
  news = news₀ ∧ (∃ u : Str → Option Value, m = fun z => if ys.contains z then u z else m₁ z) ∧ P i
theorem JTup.start {news : List (Addr × Obj)} {m : Str → Option Value} {ys : List Str} {P : Nat → Prop} (h : P 0) : JTup news m ys P 0 m news :=
  ⟨rfl, ⟨m, by funext z; split <;> rfl⟩, h⟩
theorem JTup.go {news : List (Addr × Obj)} {m₁ m : Str → Option Value} {ys : List Str} {P : Nat → Prop} {i : Nat} (hm : ∀ z, ys.contains z = false → m z = m₁ z) (h : P i) : JTup news m₁ ys P i m news :=
  ⟨rfl, ⟨m, by
    funext z
    cases e : ys.contains z with
    | true => simp
    | false => simp only [Bool.false_eq_true, if_false]; exact hm z e⟩, h⟩
end Mine
namespace Mine
open PySem PySem.W PyProof.Rows PySem.Spec PySem.Calls
set_option maxRecDepth 100000
set_option maxHeartbeats 4000000
section
variable {prog : Program} {w : World} {A : Around} {E : Value → Shared → Prop} {s : Shared} {h₀ : Heap} {L : Addr} {m : Str → Option Value} {news : List (Addr × Obj)}
theorem sum_pick {l : Addr} {vs : List Value} {ns : List Int} {lo hi st : Option Int} {n : Nat} {Q : Value → Shared → Prop} (hh : A.handled = none) (F : Fr h₀ L s.heap m) (N : News h₀ L s.heap news) (hm : (l, ({ cls := .type "list", data := .seq (slicePick vs.toArray lo hi st) n } : Obj)) ∈ news) (hi' : IntsAre vs ns)
    (h : ∀ h' tk t', Fr h₀ L h' m → News h₀ L h' news → Q (.int (pickNums ns lo hi st).sum t') { s with heap := h', toks := tk }) :
    wpAny (model prog w) A (call (.builtin "sum") [.ref l]) Q E s :=
  sumK (vs := (slicePick vs.toArray lo hi st).toList) hh F N ⟨_, (N _ hm).1, rfl, _, rfl⟩ (hi'.pick lo hi st) h
end
section
variable {prog : Program} {w : World} {A A₀ : Around} {E : Value → Shared → Prop} {s : Shared} {env : Env} {x : Str} {body : List Stmt} {Q : Flow → Shared → Prop} {base g : Heap} {outer : List Env} {K : Frag} {p : Program} {loose : List Str} {mean : ExcName → Option Value} {mg mb : Str → Option Value} {L T : Addr} {m : Str → Option Value} {news : List (Addr × Obj)} {items : Array Value} {n : Nat}
theorem not_of_contains {ys : List Str} {z : Str} (h : ys.contains z = false) : ∀ y ∈ ys, z ≠ y := by
  intro y hy e
  subst e
  have : ys.contains z = true := by simp [hy]
  rw [h] at this
  cases this
theorem tup_loop (hh : A.handled = none) (B : Below A₀ base outer g) (F : Fr g L s.heap m) (X : K.In g) (N : News g L s.heap news) (TT : Top p loose mean mg mb g) (D : KtsDicts (outer.filterMap (·.frame)) g)
    (ys : List Str) (P : Nat → Prop) (hm : (T, ({ cls := .type "tuple", data := .seq items n } : Obj)) ∈ news) (hsz : items.size < 64) (h0 : P 0)
    (turn : ∀ (i : Nat) (v : Value) (g' : Heap) (u : Str → Option Value) (h : Heap) (tk : Nat) (I : Addr) (o : Obj) (rest : Shared → Prop), items[i]? = some v → P i → OffT news I → KtsTurn (outer.filterMap (·.frame)) g g' → Fr g' L h (fun z => if ys.contains z then u z else m z) → News g' L h ((I, o) :: news) →
      Below A₀ base outer g' → K.In g' → Top p loose mean mg mb g' → KtsDicts (outer.filterMap (·.frame)) g' →
      (∀ (g'' : Heap) (m' : Str → Option Value) (h' : Heap) (tk' : Nat), KtsTurn (outer.filterMap (·.frame)) g g'' → Fr g'' L h' m' → News g'' L h' ((I, o) :: news) → Below A₀ base outer g'' → K.In g'' → Top p loose mean mg mb g'' → KtsDicts (outer.filterMap (·.frame)) g'' → (∀ z, (∀ y ∈ ys, z ≠ y) → m' z = m z) → P (i + 1) →
        rest { s with heap := h', toks := tk' }) →
      wpAny (model prog w) A (storeName env x v) (fun _ s₂ => wpAny (model prog w) A (execs body env) (OwitFlow Q rest) E s₂) E { s with heap := h, toks := tk })
    (done : ∀ (g' : Heap) (u : Str → Option Value) (h : Heap) (tk : Nat), P items.size → KtsTurn (outer.filterMap (·.frame)) g g' → Fr g' L h (fun z => if ys.contains z then u z else m z) → News g' L h news → Below A₀ base outer g' → K.In g' → Top p loose mean mg mb g' → KtsDicts (outer.filterMap (·.frame)) g' →
      Q .next { s with heap := h, toks := tk }) :
    wpAny (model prog w) A (pyIter (.ref T)) (OwitAt prog w A E env x body Q) E s := by
  have nT := N _ hm
  refine wpAny_pyIter_tuple ⟨_, nT.1, rfl, _, rfl⟩ (OwitAt.intro ?_)
  have N₂ := N.push F { cls := .type "tuple_iterator", data := .fields #[.ref T, .int 0 0] }
  have F₂ := F.push { cls := .type "tuple_iterator", data := .fields #[.ref T, .int 0 0] }
  refine forT (A₀ := A₀) (base := base) (g := g) (outer := outer) (K := K) (p := p) (loose := loose) (mean := mean) (mg := mg) (mb := mb) (L := L) (iter_tuple hh _ T items { cls := .type "tuple", data := .seq items n } ⟨rfl, _, rfl⟩) (J := JTup news m ys P) (fun i m news' hJ q hq => ?_) (fun i v g' m' h tk news' o rest hi hv hoff hJ TT' F' N' B' X' T' D' hrest => ?_) (fun g' m' h tk news' hJ TT' F' N' B' X' T' D' => ?_) 64 0 g m _ s.toks news _ (by omega) (Nat.zero_le _) ?_ ?_ (JTup.start h0) KtsTurn.refl F₂ N₂ B X TT D
  · obtain ⟨rfl, _, _⟩ := hJ
    rw [List.mem_singleton.mp hq]; exact hm
  · obtain ⟨rfl, ⟨u, rfl⟩, hP⟩ := hJ
    exact turn i v g' u h tk _ o rest hv hP hoff TT' F' N' B' X' T' D' fun g'' m' h' tk' TT' F' N' B' X' T' D' hm' hP' => hrest g'' m' h' tk' _ TT' F' N' hoff (JTup.go (fun z hz => hm' z (not_of_contains hz)) hP') B' X' T' D'
  · obtain ⟨rfl, ⟨u, rfl⟩, hP⟩ := hJ
    exact done g' u h tk hP TT' F' N' B' X' T' D'
  · exact fun h I e => ⟨_, e, rfl, rfl⟩
  · exact fun q hq => Nat.ne_of_lt (Heap.lt_size (N q hq).1)
end
theorem tryI_some {fs bs : List Int} {last : Int} {p : Nat} (h1 : Builtin.bitAnd last (bs.getD p 0) = 0)
    (h2 : Builtin.bitAnd (fullI fs bs (Builtin.bitAnd last (bs.take p).sum + bs.getD p 0)) (bs.take p).sum = Builtin.bitAnd last (bs.take p).sum) : tryI fs bs last p = some (fullI fs bs (Builtin.bitAnd last (bs.take p).sum + bs.getD p 0)) := by
  unfold tryI; rw [if_pos h1, if_pos h2]
theorem tryI_no1 {fs bs : List Int} {last : Int} {p : Nat} (h1 : Builtin.bitAnd last (bs.getD p 0) ≠ 0) : tryI fs bs last p = none := by
  unfold tryI; rw [if_neg h1]
theorem tryI_no2 {fs bs : List Int} {last : Int} {p : Nat} (h2 : Builtin.bitAnd (fullI fs bs (Builtin.bitAnd last (bs.take p).sum + bs.getD p 0)) (bs.take p).sum ≠ Builtin.bitAnd last (bs.take p).sum) : tryI fs bs last p = none := by
  unfold tryI
  by_cases h1 : Builtin.bitAnd last (bs.getD p 0) = 0
  · rw [if_pos h1, if_neg h2]
  · rw [if_neg h1]
theorem stepI_at {fs bs : List Int} {last M : Int} {i : Nat} (hi : i < 4) (hP : ∀ j < i, tryI fs bs last (3 - j) = none) (hs : tryI fs bs last (3 - i) = some M) : stepI fs bs last = [M] := by
  rcases i with _ | _ | _ | _ | i
  · have e : tryI fs bs last 3 = some M := hs
    unfold stepI; rw [e]
  · have e : tryI fs bs last 2 = some M := hs
    have e0 : tryI fs bs last 3 = none := hP 0 (by omega)
    unfold stepI; rw [e0, e]
  · have e : tryI fs bs last 1 = some M := hs
    have e0 : tryI fs bs last 3 = none := hP 0 (by omega)
    have e1 : tryI fs bs last 2 = none := hP 1 (by omega)
    unfold stepI; rw [e0, e1, e]
  · have e : tryI fs bs last 0 = some M := hs
    have e0 : tryI fs bs last 3 = none := hP 0 (by omega)
    have e1 : tryI fs bs last 2 = none := hP 1 (by omega)
    have e2 : tryI fs bs last 1 = none := hP 2 (by omega)
    unfold stepI; rw [e0, e1, e2, e]
  · omega
theorem stepI_none {fs bs : List Int} {last : Int} (hP : ∀ j < 4, tryI fs bs last (3 - j) = none) : stepI fs bs last = [] := by
  have e0 : tryI fs bs last 3 = none := hP 0 (by omega)
  have e1 : tryI fs bs last 2 = none := hP 1 (by omega)
  have e2 : tryI fs bs last 1 = none := hP 2 (by omega)
  have e3 : tryI fs bs last 0 = none := hP 3 (by omega)
  unfold stepI; rw [e0, e1, e2, e3]
theorem noneTo {fs bs : List Int} {last : Int} {i : Nat} (hP : ∀ j < i, tryI fs bs last (3 - j) = none) (h : tryI fs bs last (3 - i) = none) : ∀ j < i + 1, tryI fs bs last (3 - j) = none := by
  intro j hj
  rcases Nat.lt_or_ge j i with q | q
  · exact hP j q
  · have : j = i := by omega
    rw [this]; exact h
theorem contains_no {ys : List Str} {z : Str} (h : ∀ y ∈ ys, z ≠ y) : ys.contains z = false := by
  cases e : ys.contains z with
  | false => rfl
  | true =>
    have : z ∈ ys := by simpa using e
    exact absurd rfl (h z this)
end Mine
namespace Mine
open PySem PySem.W PyProof.Rows PySem.Spec PySem.Calls
set_option maxRecDepth 100000
set_option maxHeartbeats 4000000
abbrev rgObj (n : Int) (t u v : Tok) : Obj := { cls := .type "range", dict := none, data := .fields #[.int 0 t, .int n u, .int 1 v], slots := #[] }
abbrev riObj (x left : Int) : Obj := { cls := .type "range_iterator", data := .fields #[rawInt x, rawInt left, rawInt 1] }
/-- what a callable of a row and an int gives, whatever frame calls it: a new row -/
def FnRow (prog : Program) (w : World) (K : Frag) (p : Program) (loose : List Str) (mean : ExcName → Option Value) (mg mb : Str → Option Value) (base : Heap) (f : Addr) (own : List (Addr × Obj)) (d0 : Nat) (G : List Int → List Int) : Prop :=
  ∀ (dp un : Nat) (gd : Option (List Code)) (cn : Str) (cs : Scope) (a : Addr) (ccd : Value) (cl : List (Str × Addr)) (outer : List Env) (A₀ : Around) (g₀ h₀ : Heap) (L : Addr) (m : Str → Option Value) (s : Shared) (Q E : Value → Shared → Prop) (news : List (Addr × Obj)) (R : Addr) (vs : List Value) (c : Nat) (row : List Int) (x : Int) (tx : Tok),
    Below A₀ base outer h₀ → Fr h₀ L s.heap m → K.In h₀ → News h₀ L s.heap news → Top p loose mean mg mb h₀ → cs.kind = .function → dp + d0 < recursionLimit → KtsDicts (outer.filterMap (·.frame)) h₀ → KtsTurn (outer.filterMap (·.frame)) g₀ h₀ → (∀ q ∈ own, q ∈ news) →
    (R, listObj vs c) ∈ news → IntsAre vs row → row ≠ [] → row.length ≤ 64 →
    (∀ (R' : Addr) (vs' : List Value) (c' : Nat) (h₀' h' : Heap) (tk' : Nat), KtsTurn (outer.filterMap (·.frame)) g₀ h₀' → Fr h₀' L h' m → News h₀' L h' ((R', listObj vs' c') :: news) → (∀ p ∈ news, p.1 < R') → Below A₀ base outer h₀' → K.In h₀' → Top p loose mean mg mb h₀' → KtsDicts (outer.filterMap (·.frame)) h₀' →
      IntsAre vs' (G row) → Q (.ref R') { s with heap := h', toks := tk' }) →
    wpAny (model prog w) (ktrTop dp un gd cn cs L a ccd cl outer) (call (.ref f) [.ref R, .int x tx]) Q E s
section
variable {prog : Program} {w : World} {A : Around} {E : Value → Shared → Prop} {s : Shared} {h₀ : Heap} {L a it : Addr} {m : Str → Option Value} {news : List (Addr × Obj)}
theorem k_iter_rg {t u v : Tok} {Q : Value → Shared → Prop} (F : Fr h₀ L s.heap m) (N : News h₀ L s.heap news) (hm : (a, rgObj 16 t u v) ∈ news)
    (h : ∀ I h', Fr h₀ L h' m → News h₀ L h' ((I, riObj 0 16) :: news) → (∀ p ∈ news, p.1 < I) → Q (.ref I) { s with heap := h' }) :
    wpAny (model prog w) A (call (.builtin "iter") [.ref a]) Q E s := by
  refine call_function_entry (by decide +kernel) (by decide +kernel) kdk_entry_iter (kdk_args_iter _) ?_
  unfold Builtin.«iter»
  refine wpAny_bind (m := someArgs "iter" 1 2 _) (wpAny_of_eq (a := [Value.ref a]) (by first | rfl | kernel_rfl!) ?_)
  show wpAny _ _ (pyIter (.ref a) >>= _) _ _ _
  refine wpAny_bind (wpAny_pyIter_range (N _ hm).1 (by decide) ?_)
  exact wpAny_pure ⟨_, rfl, h _ _ (F.push _) (N.push F (riObj 0 16)) (fun p hp => Heap.lt_size (N p hp).1)⟩
end
def JRow (LN : List (Addr × Obj)) (m₁ : Str → Option Value) (rows : Nat → List Int) (x y : Str) (i : Nat) (m : Str → Option Value) (news' : List (Addr × Obj)) : Prop :=
  ∃ (R : Addr) (vs : List Value) (c : Nat) (u : Str → Option Value), news' = (R, listObj vs c) :: LN ∧ IntsAre vs (rows i) ∧ m = fun z => if z = x then u z else if z = y then some (.ref R) else m₁ z
section
variable {prog : Program} {w : World} {A A₀ : Around} {E : Value → Shared → Prop} {s : Shared} {env : Env} {x y : Str} {body : List Stmt} {Q : Flow → Shared → Prop} {base g : Heap} {outer : List Env} {K : Frag} {p : Program} {loose : List Str} {mean : ExcName → Option Value} {mg mb : Str → Option Value} {L I R₀ : Addr} {m : Str → Option Value} {LN : List (Addr × Obj)} {vs : List Value} {c : Nat}
theorem row_map {m m₁ : Str → Option Value} {x y : Str} {v : Value} (hy : m y = some v) (hz : ∀ z, z ≠ x → z ≠ y → m z = m₁ z) : m = fun z => if z = x then m z else if z = y then some v else m₁ z := by
  funext z
  by_cases h1 : z = x
  · simp [h1]
  · by_cases h2 : z = y
    · simp only [if_neg h1, if_pos h2]; rw [h2, hy]
    · simp only [if_neg h1, if_neg h2]; exact hz z h1 h2
theorem rng_loop (rows : Nat → List Int) (hh : A.handled = none) (B : Below A₀ base outer g) (F : Fr g L s.heap m) (X : K.In g) (N : News g L s.heap ((I, riObj 0 16) :: (R₀, listObj vs c) :: LN)) (TT : Top p loose mean mg mb g) (D : KtsDicts (outer.filterMap (·.frame)) g)
    (hoff : OffT ((R₀, listObj vs c) :: LN) I) (hi : IntsAre vs (rows 0)) (hy : m y = some (.ref R₀))
    (turn : ∀ (i : Nat) (tv : Tok) (g' : Heap) (u : Str → Option Value) (h : Heap) (tk : Nat) (o : Obj) (R : Addr) (vs1 : List Value) (c1 : Nat) (rest : Shared → Prop), OffT ((R, listObj vs1 c1) :: LN) I → KtsTurn (outer.filterMap (·.frame)) g g' → Fr g' L h (fun z => if z = x then u z else if z = y then some (.ref R) else m z) → News g' L h ((I, o) :: (R, listObj vs1 c1) :: LN) →
      IntsAre vs1 (rows i) → Below A₀ base outer g' → K.In g' → Top p loose mean mg mb g' → KtsDicts (outer.filterMap (·.frame)) g' →
      (∀ (g'' : Heap) (m' : Str → Option Value) (h' : Heap) (tk' : Nat) (R' : Addr) (vs' : List Value) (c' : Nat), KtsTurn (outer.filterMap (·.frame)) g g'' → Fr g'' L h' m' → News g'' L h' ((I, o) :: (R', listObj vs' c') :: LN) → R' ≠ I → Below A₀ base outer g'' → K.In g'' → Top p loose mean mg mb g'' → KtsDicts (outer.filterMap (·.frame)) g'' →
        m' y = some (.ref R') → (∀ z, z ≠ x → z ≠ y → m' z = m z) → IntsAre vs' (rows (i + 1)) → rest { s with heap := h', toks := tk' }) →
      wpAny (model prog w) A (storeName env x (.int i tv)) (fun _ s₂ => wpAny (model prog w) A (execs body env) (OwitFlow Q rest) E s₂) E { s with heap := h, toks := tk })
    (done : ∀ (g' : Heap) (u : Str → Option Value) (h : Heap) (tk : Nat) (R : Addr) (vs1 : List Value) (c1 : Nat), KtsTurn (outer.filterMap (·.frame)) g g' → Fr g' L h (fun z => if z = x then u z else if z = y then some (.ref R) else m z) → News g' L h ((R, listObj vs1 c1) :: LN) → IntsAre vs1 (rows 16) → Below A₀ base outer g' → K.In g' → Top p loose mean mg mb g' → KtsDicts (outer.filterMap (·.frame)) g' →
      Q .next { s with heap := h, toks := tk }) :
    wpAny (model prog w) A (pyIter (.ref I)) (OwitAt prog w A E env x body Q) E s := by
  refine wpAny_pyIter_rangeiter (N _ (.head _)).1 (OwitAt.intro ?_)
  refine forT (A₀ := A₀) (base := base) (g := g) (outer := outer) (K := K) (p := p) (loose := loose) (mean := mean) (mg := mg) (mb := mb) (L := L) (iter_range hh I 16) (J := JRow LN m rows x y) (fun _ _ _ _ _ h => absurd h List.not_mem_nil) (fun i v g' m' h tk news' o rest hi hv hoff' hJ TT' F' N' B' X' T' D' hrest => ?_) (fun g' m' h tk news' hJ TT' F' N' B' X' T' D' => ?_) 64 0 g m s.heap s.toks ((R₀, listObj vs c) :: LN) (riObj 0 16) (by omega) (Nat.zero_le _) rfl hoff ⟨R₀, vs, c, m, rfl, hi, row_map hy fun _ _ _ => rfl⟩ KtsTurn.refl F N B X TT D
  · obtain ⟨R, vs1, c1, u, rfl, hi1, rfl⟩ := hJ
    obtain ⟨tv, rfl⟩ := hv
    exact turn i tv g' u h tk o R vs1 c1 rest hoff' TT' F' N' hi1 B' X' T' D' fun g'' m' h' tk' R' vs' c' TT' F' N' hne B' X' T' D' hy' hz' hi' => hrest g'' m' h' tk' _ TT' F' N' (fun q hq => (List.mem_cons.mp hq).elim (fun e => e ▸ hne) fun h => hoff q (.tail _ h)) ⟨R', vs', c', m', rfl, hi', row_map hy' hz'⟩ B' X' T' D'
  · obtain ⟨R, vs1, c1, u, rfl, hi1, rfl⟩ := hJ
    exact done g' u h tk R vs1 c1 TT' F' N' hi1 B' X' T' D'
end
end Mine
namespace Mine
open PySem PySem.W PyProof.Rows PySem.Spec PySem.Calls
set_option maxRecDepth 100000
set_option maxHeartbeats 4000000
section
variable {prog : Program} {w : World} {A A₀ : Around} {E : Value → Shared → Prop} {s : Shared} {env : Env} {x y : Str} {body : List Stmt} {Q : Flow → Shared → Prop} {base g : Heap} {outer : List Env} {K : Frag} {p : Program} {loose : List Str} {mean : ExcName → Option Value} {mg mb : Str → Option Value} {L S : Addr} {m : Str → Option Value} {news : List (Addr × Obj)} {vs : List Value} {n : Nat}
def liIs (S : Addr) (i : Nat) (o : Obj) : Prop := ∀ (h : Heap) (I : Addr), h.get? I = some o → h.IsListIter I S i
theorem iter_list (hh : A.handled = none) (I S : Addr) (vs : List Value) (n : Nat) : Iter prog w A I [(S, listObj vs n)] (liIs S) (fun i v => vs[i]? = some v) vs.length where
  next := fun i s o Q E hi hit ho haux hQ => by
    have hl : s.heap.IsList S vs.toArray := ⟨_, haux _ (.head _), rfl, _, rfl⟩
    refine wpAny_pyNext_list_item (hit _ _ ho) hl (x := vs[i]) (by simp [hi]) fun h' hit' hs => ?_
    obtain ⟨o', ho', hr⟩ := id hit'
    exact hQ _ h' o' s.toks (by simp [hi]) (fun h2 I2 e2 => ⟨o', e2, hr⟩) ho' hs
  stop := fun s o Q E hit ho haux hQ => by
    have hl : s.heap.IsList S vs.toArray := ⟨_, haux _ (.head _), rfl, _, rfl⟩
    exact wpAny_pyNext_list_end hh (hit _ _ ho) hl (by simp) fun h' he' => hQ h' s.toks fun b o hb e => he' b o hb e
theorem list_loop (J : Nat → (Str → Option Value) → List (Addr × Obj) → Prop) (hh : A.handled = none) (B : Below A₀ base outer g) (F : Fr g L s.heap m) (X : K.In g) (N : News g L s.heap news) (TT : Top p loose mean mg mb g) (D : KtsDicts (outer.filterMap (·.frame)) g)
    (hm : (S, listObj vs n) ∈ news) (hsz : vs.length < 64) (haux : ∀ i m news', J i m news' → (S, listObj vs n) ∈ news') (h0 : J 0 m news)
    (turn : ∀ (i : Nat) (v : Value) (g' : Heap) (m : Str → Option Value) (h : Heap) (tk : Nat) (I : Addr) (o : Obj) (news : List (Addr × Obj)) (rest : Shared → Prop), vs[i]? = some v → OffT news I → J i m news → KtsTurn (outer.filterMap (·.frame)) g g' → Fr g' L h m → News g' L h ((I, o) :: news) →
      Below A₀ base outer g' → K.In g' → Top p loose mean mg mb g' → KtsDicts (outer.filterMap (·.frame)) g' →
      (∀ (g'' : Heap) (m' : Str → Option Value) (h' : Heap) (tk' : Nat) (news' : List (Addr × Obj)), KtsTurn (outer.filterMap (·.frame)) g g'' → Fr g'' L h' m' → News g'' L h' ((I, o) :: news') → OffT news' I → J (i + 1) m' news' → Below A₀ base outer g'' → K.In g'' → Top p loose mean mg mb g'' → KtsDicts (outer.filterMap (·.frame)) g'' →
        rest { s with heap := h', toks := tk' }) →
      wpAny (model prog w) A (storeName env x v) (fun _ s₂ => wpAny (model prog w) A (execs body env) (OwitFlow Q rest) E s₂) E { s with heap := h, toks := tk })
    (done : ∀ (g' : Heap) (m : Str → Option Value) (h : Heap) (tk : Nat) (news : List (Addr × Obj)), J vs.length m news → KtsTurn (outer.filterMap (·.frame)) g g' → Fr g' L h m → News g' L h news → Below A₀ base outer g' → K.In g' → Top p loose mean mg mb g' → KtsDicts (outer.filterMap (·.frame)) g' →
      Q .next { s with heap := h, toks := tk }) :
    wpAny (model prog w) A (pyIter (.ref S)) (OwitAt prog w A E env x body Q) E s := by
  have nS := N _ hm
  refine wpAny_pyIter_list ⟨_, nS.1, rfl, _, rfl⟩ (OwitAt.intro ?_)
  have N₂ := N.push F { cls := .type "list_iterator", data := .fields #[.ref S, .int 0 0] }
  have F₂ := F.push { cls := .type "list_iterator", data := .fields #[.ref S, .int 0 0] }
  refine forT (A₀ := A₀) (base := base) (g := g) (outer := outer) (K := K) (p := p) (loose := loose) (mean := mean) (mg := mg) (mb := mb) (L := L) (iter_list hh _ S vs n) (J := J) (fun i m news' hJ q hq => ?_) (fun i v g' m' h tk news' o rest hi hv hoff hJ TT' F' N' B' X' T' D' hrest => turn i v g' m' h tk _ o news' rest hv hoff hJ TT' F' N' B' X' T' D' hrest) done 64 0 g m _ s.toks news _ (by omega) (Nat.zero_le _) ?_ ?_ h0 KtsTurn.refl F₂ N₂ B X TT D
  · rw [List.mem_singleton.mp hq]; exact haux i m news' hJ
  · exact fun h I e => ⟨_, e, rfl, rfl⟩
  · exact fun q hq => Nat.ne_of_lt (Heap.lt_size (N q hq).1)
theorem range_loop (J : Nat → (Str → Option Value) → List (Addr × Obj) → Prop) {r : Addr} {t u v : Tok} {n : Nat} (hh : A.handled = none) (B : Below A₀ base outer g) (F : Fr g L s.heap m) (X : K.In g) (N : News g L s.heap news) (TT : Top p loose mean mg mb g) (D : KtsDicts (outer.filterMap (·.frame)) g)
    (hr : IsRange s.heap r 0 n 1 t u v) (hsm : Builtin.Range.small 0 n 1 = true) (hrs : Builtin.Range.rangeSize 0 n 1 = n) (hsz : n < 64) (h0 : J 0 m news)
    (turn : ∀ (i : Nat) (tv : Tok) (g' : Heap) (m : Str → Option Value) (h : Heap) (tk : Nat) (I : Addr) (o : Obj) (news : List (Addr × Obj)) (rest : Shared → Prop), i < n → OffT news I → J i m news → KtsTurn (outer.filterMap (·.frame)) g g' → Fr g' L h m → News g' L h ((I, o) :: news) →
      Below A₀ base outer g' → K.In g' → Top p loose mean mg mb g' → KtsDicts (outer.filterMap (·.frame)) g' →
      (∀ (g'' : Heap) (m' : Str → Option Value) (h' : Heap) (tk' : Nat) (news' : List (Addr × Obj)), KtsTurn (outer.filterMap (·.frame)) g g'' → Fr g'' L h' m' → News g'' L h' ((I, o) :: news') → OffT news' I → J (i + 1) m' news' → Below A₀ base outer g'' → K.In g'' → Top p loose mean mg mb g'' → KtsDicts (outer.filterMap (·.frame)) g'' →
        rest { s with heap := h', toks := tk' }) →
      wpAny (model prog w) A (storeName env x (.int i tv)) (fun _ s₂ => wpAny (model prog w) A (execs body env) (OwitFlow Q rest) E s₂) E { s with heap := h, toks := tk })
    (done : ∀ (g' : Heap) (m : Str → Option Value) (h : Heap) (tk : Nat) (news : List (Addr × Obj)), J n m news → KtsTurn (outer.filterMap (·.frame)) g g' → Fr g' L h m → News g' L h news → Below A₀ base outer g' → K.In g' → Top p loose mean mg mb g' → KtsDicts (outer.filterMap (·.frame)) g' →
      Q .next { s with heap := h, toks := tk }) :
    wpAny (model prog w) A (pyIter (.ref r)) (OwitAt prog w A E env x body Q) E s := by
  refine wpAny_pyIter_range hr hsm (OwitAt.intro ?_)
  rw [hrs]
  have N₂ := N.push F (riObj 0 n)
  have F₂ := F.push (riObj 0 n)
  refine forT (A₀ := A₀) (base := base) (g := g) (outer := outer) (K := K) (p := p) (loose := loose) (mean := mean) (mg := mg) (mb := mb) (L := L) (iter_range hh _ n) (J := J) (fun _ _ _ _ _ h => absurd h List.not_mem_nil) (fun i v g' m' h tk news' o rest hi hv hoff hJ TT' F' N' B' X' T' D' hrest => ?_) done 64 0 g m _ s.toks news _ (by omega) (Nat.zero_le _) ?_ ?_ h0 KtsTurn.refl F₂ N₂ B X TT D
  · obtain ⟨tv, rfl⟩ := hv
    exact turn i tv g' m' h tk _ o news' rest hi hoff hJ TT' F' N' B' X' T' D' hrest
  · show riObj 0 n = _
    simp
  · exact fun q hq => Nat.ne_of_lt (Heap.lt_size (N q hq).1)
end
theorem cut2 {M : Model} {A : Around} {a b : Stmt} {rest : List Stmt} {env : Env} {Q : Flow → Shared → Prop} {E : Value → Shared → Prop} {s : Shared} (P : Shared → Prop)
    (h : wpAny M A (exec a env) (fun f s' => match f with | .next => wpAny M A (exec b env) (fun f s'' => f = .next ∧ P s'') E s' | _ => False) E s) (h2 : ∀ s', P s' → wpAny M A (execs rest env) Q E s') : wpAny M A (execs (a :: b :: rest) env) Q E s := by
  refine wpAny_execs_cons (wpAny_mono h (fun f s' z => ?_) fun _ _ z => z)
  cases f with
  | next => exact wpAny_execs_cons (wpAny_mono z (fun f s'' y => by obtain ⟨rfl, y⟩ := y; exact h2 s'' y) fun _ _ z => z)
  | _ => exact z.elim
end Mine
namespace Mine
open PySem PySem.W PyProof.Rows PySem.Spec PySem.Calls
set_option maxRecDepth 100000
set_option maxHeartbeats 4000000
section
open LCg LCt
variable {prog : Program} {w : World} {A : Around} {s : Shared} {h₀ : Heap} {L : Addr} {m : Str → Option Value} {env : Env} {ct elt : Expr} {x : Str} {scope : Scope} {cl : List (Str × Addr)} {S : List (Addr × Obj) → Prop} {P : Nat → Value → Prop} {Fin : List Value → List (Addr × Obj) → Prop} {news : List (Addr × Obj)} {n : Nat}
theorem compEnd_mono {s₁ s₂ : Shared} {I C D : Addr} {oI oC oD : Obj} {y : Value} {r r' : Value → List (Addr × Obj) → Prop} (h : CompEnd h₀ L m s₁ I oI C oC D oD S r y s₂) (k : ∀ nw, r y nw → r' y nw) : CompEnd h₀ L m s₁ I oI C oC D oD S r' y s₂ := by
  obtain ⟨h', tk, nw, e, F, N, o, hs, hr⟩ := h
  exact ⟨h', tk, nw, e, F, N, o, hs, k nw hr⟩
theorem rest_ind (C : Nat → List Value → Prop)
    (step : ∀ i ys, i < n → C i ys → ∀ v I oI Cc oC D m₂ h tk (E' : Value → Shared → Prop), P i v → NsObj oC m₂ → m₂ x = some v → Fr h₀ L h m → News h₀ L h ((I, oI) :: (Cc, oC) :: (D, lst ys) :: news) → Off3 I Cc D news → ((@Ne Nat I Cc) ∧ (@Ne Nat I D) ∧ (@Ne Nat Cc D)) →
      wpAny (model prog w) A (eval elt (compEnvC scope cl Cc env)) (CompEnd h₀ L m { s with heap := h, toks := tk } I oI Cc oC D (lst ys) S (fun y news' => news' = news ∧ C (i + 1) (ys ++ [y]))) E' { s with heap := h, toks := tk })
    (fin : ∀ ys, C n ys → Fin ys news) : ∀ k i ys, i + k = n → C i ys → CompRest prog w A h₀ L m env elt x scope cl s S P Fin k i ys news := by
  intro k
  induction k with
  | zero => intro i ys e c; exact fin ys (by rw [← e]; exact c)
  | succ k ih =>
    intro i ys e c
    refine CompRest.succ fun v I oI Cc oC D m₂ h tk E' h1 h2 h3 h4 h5 h6 h7 => ?_
    refine wpAny_mono (step i ys (by omega) c v I oI Cc oC D m₂ h tk E' h1 h2 h3 h4 h5 h6 h7) (fun y s' z => compEnd_mono z fun nw q => ?_) fun _ _ z => z
    obtain ⟨rfl, q⟩ := q
    exact ih (i + 1) _ (by omega) q
theorem rest_indT (C : Nat → List Value → Prop)
    (step : ∀ i ys, i < n → C i ys → ∀ v I oI Cc oC D m₂ h tk (E' : Value → Shared → Prop), P i v → NsObj oC m₂ → m₂ x = some v → Fr h₀ L h m → News h₀ L h ((I, oI) :: (Cc, oC) :: (D, lst ys) :: news) → Off3 I Cc D news → ((@Ne Nat I Cc) ∧ (@Ne Nat I D) ∧ (@Ne Nat Cc D)) →
      wpAny (model prog w) A (isTrue ct (compEnvC scope cl Cc env) (eval ct (compEnvC scope cl Cc env))) (fun ok s' => if ok = true then
        wpAny (model prog w) A (eval elt (compEnvC scope cl Cc env)) (CompEnd h₀ L m { s with heap := h, toks := tk } I oI Cc oC D (lst ys) S (fun y news' => news' = news ∧ C (i + 1) (ys ++ [y]))) E' s'
        else CompEnd h₀ L m { s with heap := h, toks := tk } I oI Cc oC D (lst ys) S (fun _ news' => news' = news ∧ C (i + 1) ys) Value.none s') E' { s with heap := h, toks := tk })
    (fin : ∀ ys, C n ys → Fin ys news) : ∀ k i ys, i + k = n → C i ys → CompRestT prog w A h₀ L m env ct elt x scope cl s S P Fin k i ys news := by
  intro k
  induction k with
  | zero => intro i ys e c; exact fin ys (by rw [← e]; exact c)
  | succ k ih =>
    intro i ys e c
    refine CompRestT.succ fun v I oI Cc oC D m₂ h tk E' h1 h2 h3 h4 h5 h6 h7 => ?_
    refine wpAny_mono (step i ys (by omega) c v I oI Cc oC D m₂ h tk E' h1 h2 h3 h4 h5 h6 h7) (fun ok s' z => ?_) fun _ _ z => z
    cases ok with
    | true =>
      simp only [if_true] at z ⊢
      refine wpAny_mono z (fun y s' z => compEnd_mono z fun nw q => ?_) fun _ _ z => z
      obtain ⟨rfl, q⟩ := q
      exact ih (i + 1) _ (by omega) q
    | false =>
      simp only [Bool.false_eq_true, if_false] at z ⊢
      refine compEnd_mono z fun nw q => ?_
      obtain ⟨rfl, q⟩ := q
      exact ih (i + 1) _ (by omega) q
end
/-- the places of a mode's bits, of the first i -/
def selN (bs : List Int) (f : Int) : Nat → List Int
  | 0 => []
  | i + 1 => if ((f.fmod 4096).fdiv (bs.getD i 0)).fmod 2 = 1 then selN bs f i ++ [(i : Int)] else selN bs f i
def w8 (k : Int) : Int := [8, 4, 2, 1].getD k.toNat 0
def worthI (bs : List Int) (f : Int) : Int := ((selN bs f 4).map w8).sum
def tellN (bs : List Int) (v : Int) : Nat → List Int
  | 0 => []
  | i + 1 => if (v.fdiv (w8 i)).fmod 2 = 1 then tellN bs v i ++ [bs.getD i 0] else tellN bs v i
theorem selN_bound (bs : List Int) (f : Int) : ∀ n, ∀ k ∈ selN bs f n, 0 ≤ k ∧ k < n
  | 0, k, h => absurd h List.not_mem_nil
  | n + 1, k, h => by
    unfold selN at h
    split at h
    · rcases List.mem_append.mp h with h | h
      · have := selN_bound bs f n k h; omega
      · rw [List.mem_singleton.mp h]; omega
    · have := selN_bound bs f n k h; omega
theorem IntsAreSnoc {vs : List Value} {ns : List Int} (h : IntsAre vs ns) (k : Int) (t : Tok) : IntsAre (vs ++ [.int k t]) (ns ++ [k]) := by
  induction h with
  | nil => exact .cons _ _ .nil
  | cons n t' _ ih => exact .cons n t' ih
theorem selN_len (bs : List Int) (f : Int) : ∀ n, (selN bs f n).length ≤ n
  | 0 => Nat.le_refl _
  | n + 1 => by
    unfold selN
    have := selN_len bs f n
    split
    · rw [List.length_append, List.length_singleton]; omega
    · omega
theorem selN_yes {bs : List Int} {f : Int} {i : Nat} (h : ((f.fmod 4096).fdiv (bs.getD i 0)).fmod 2 = 1) : selN bs f (i + 1) = selN bs f i ++ [(i : Int)] := by rw [selN, if_pos h]
theorem selN_no {bs : List Int} {f : Int} {i : Nat} (h : ((f.fmod 4096).fdiv (bs.getD i 0)).fmod 2 ≠ 1) : selN bs f (i + 1) = selN bs f i := by rw [selN, if_neg h]
theorem tellN_yes {bs : List Int} {v : Int} {i : Nat} (h : (v.fdiv (w8 i)).fmod 2 = 1) : tellN bs v (i + 1) = tellN bs v i ++ [bs.getD i 0] := by rw [tellN, if_pos h]
theorem tellN_no {bs : List Int} {v : Int} {i : Nat} (h : (v.fdiv (w8 i)).fmod 2 ≠ 1) : tellN bs v (i + 1) = tellN bs v i := by rw [tellN, if_neg h]
theorem take_snoc {ns : List Int} {j : Nat} {k : Int} (h : ns[j]? = some k) : (ns.take (j + 1)).map w8 = (ns.take j).map w8 ++ [w8 k] := by
  rw [List.take_succ, h]; simp
theorem fr_cast {h₀ h : Heap} {L : Addr} {m m' : Str → Option Value} (e : ∀ z, m z = m' z) (F : Fr h₀ L h m) : Fr h₀ L h m' := by
  have : m = m' := funext e
  rw [← this]; exact F
theorem and_snoc {ns : List Int} {j : Nat} {k w : Int} (h : ns[j]? = some k) : (ns.take (j + 1)).map (fun one => Builtin.bitAnd one w) = (ns.take j).map (fun one => Builtin.bitAnd one w) ++ [Builtin.bitAnd k w] := by
  rw [List.take_succ, h]; simp
theorem fr_here {h₀ h : Heap} {L : Addr} {m m1 : Str → Option Value} {hx : Str} (F : Fr h₀ L h m) (e : ∀ z, z ≠ hx → m z = m1 z) : Fr h₀ L h (fun z => if z = hx then m z else m1 z) :=
  fr_cast (fun z => by by_cases hz : z = hx <;> simp [hz, e]) F
theorem two_map {m : Str → Option Value} {y1 y2 : Str} {v1 v2 : Option Value} (h1 : m y1 = v1) (h2 : m y2 = v2) (z : Str) : m z = if z = y1 then v1 else if z = y2 then v2 else m z := by
  by_cases e1 : z = y1
  · rw [if_pos e1, e1, h1]
  · rw [if_neg e1]
    by_cases e2 : z = y2
    · rw [if_pos e2, e2, h2]
    · rw [if_neg e2]
theorem off_set2 {a b I : Addr} {p1 p2 p3 p4 : Obj} {r : List (Addr × Obj)} (h : OffT ((a, p1) :: (b, p2) :: r) I) : OffT ((a, p3) :: (b, p4) :: r) I := fun p hp => by
  rcases List.mem_cons.mp hp with e | hp
  · rw [e]; exact h (a, p1) (.head _)
  rcases List.mem_cons.mp hp with e | hp
  · rw [e]; exact h (b, p2) (.tail _ (.head _))
  · exact h p (.tail _ (.tail _ hp))
end Mine
namespace Mine
open PySem PySem.W PyProof.Rows
/-! Ganter's next closure on four bits, in plain Lean -/
section
/-- the bit of a place, and the bits ahead of it -/
def bP (p : Nat) : Nat := [8, 4, 2, 1].getD p 0
def aP (p : Nat) : Nat := [0, 8, 12, 14].getD p 0
structure Clo (cl : Nat → Nat) : Prop where
  le : ∀ x, cl x < 16
  ext : ∀ x, x < 16 → x &&& cl x = x
  least : ∀ x u, x < 16 → u < 16 → cl u = u → x &&& u = x → cl x &&& u = cl x
  idem : ∀ x, x < 16 → cl (cl x) = cl x
def tryN (cl : Nat → Nat) (v p : Nat) : Option Nat :=
  if v &&& bP p = 0 then
    if cl ((v &&& aP p) + bP p) &&& aP p = v &&& aP p then some (cl ((v &&& aP p) + bP p)) else none
  else none
theorem nd_part : ∀ v < 16, ∀ u < 16, v < u → ∃ p, p < 4 ∧ v &&& aP p = u &&& aP p ∧ v &&& bP p = 0 ∧ u &&& bP p = bP p := by decide +kernel
theorem nd_sub : ∀ u < 16, ∀ p < 4, u &&& bP p = bP p → ((u &&& aP p) + bP p) &&& u = (u &&& aP p) + bP p := by decide +kernel
theorem nd_x : ∀ v < 16, ∀ p < 4, (v &&& aP p) + bP p < 16 ∧ (v &&& aP p) &&& ((v &&& aP p) + bP p) = v &&& aP p ∧ bP p &&& ((v &&& aP p) + bP p) = bP p := by decide +kernel
theorem nd_lt0 : ∀ v < 16, ∀ w < 16, ∀ p < 4, (w &&& aP p = v &&& aP p ∧ v &&& bP p = 0 ∧ w &&& bP p = bP p) → v < w := by decide +kernel
theorem nd_lt (v : Nat) (hv : v < 16) (w : Nat) (hw : w < 16) (p : Nat) (hp : p < 4) (h1 : w &&& aP p = v &&& aP p) (h2 : v &&& bP p = 0) (h3 : w &&& bP p = bP p) : v < w := nd_lt0 v hv w hw p hp ⟨h1, h2, h3⟩
theorem nd_up : ∀ p < 4, ∀ q < p, aP q &&& aP p = aP q ∧ bP q &&& aP p = bP q := by decide +kernel
theorem sub_trans {a b c : Nat} (h1 : a &&& b = a) (h2 : b &&& c = b) : a &&& c = a := by
  rw [← h1, Nat.and_assoc, h2]
theorem Clo.hit {cl : Nat → Nat} (C : Clo cl) {v u p : Nat} (hv : v < 16) (hu : u < 16) (hc : cl u = u) (hp : p < 4) (h1 : v &&& aP p = u &&& aP p) (h2 : v &&& bP p = 0) (h3 : u &&& bP p = bP p) :
    ∃ w, tryN cl v p = some w ∧ w ≤ u := by
  obtain ⟨x1, x2, x3⟩ := nd_x v hv p hp
  have xs : ((v &&& aP p) + bP p) &&& u = (v &&& aP p) + bP p := by rw [h1]; exact nd_sub u hu p hp h3
  have l := C.least _ u x1 hu hc xs
  have e := C.ext _ x1
  have hw : cl ((v &&& aP p) + bP p) &&& aP p = v &&& aP p := by
    rw [← l, Nat.and_assoc, ← h1, Nat.and_comm]
    exact sub_trans x2 e
  refine ⟨cl ((v &&& aP p) + bP p), by unfold tryN; rw [if_pos h2, if_pos hw], ?_⟩
  rw [← l]; exact Nat.and_le_right
theorem Clo.found {cl : Nat → Nat} (C : Clo cl) {v w p : Nat} (hv : v < 16) (hp : p < 4) (h : tryN cl v p = some w) (hn : ∀ q, q < 4 → p < q → tryN cl v q = none) :
    v < w ∧ cl w = w ∧ w < 16 ∧ ∀ u, u < 16 → cl u = u → v < u → w ≤ u := by
  unfold tryN at h
  split at h
  · rename_i h2
    split at h
    · rename_i hw
      cases h
      obtain ⟨x1, x2, x3⟩ := nd_x v hv p hp
      have e := C.ext _ x1
      have hb : cl ((v &&& aP p) + bP p) &&& bP p = bP p := by rw [Nat.and_comm]; exact sub_trans x3 e
      have hlt := C.le ((v &&& aP p) + bP p)
      refine ⟨nd_lt v hv _ hlt p hp hw h2 hb, C.idem _ x1, hlt, fun u hu hc hvu => ?_⟩
      obtain ⟨q, hq, q1, q2, q3⟩ := nd_part v hv u hu hvu
      obtain ⟨w', g1, g2⟩ := C.hit hv hu hc hq q1 q2 q3
      rcases Nat.lt_trichotomy p q with hl | hl | hl
      · rw [hn q hq hl] at g1; cases g1
      · subst hl
        unfold tryN at g1
        rw [if_pos h2, if_pos hw] at g1
        cases g1
        exact g2
      · obtain ⟨u1, u2⟩ := nd_up p hp q hl
        refine Nat.le_of_lt (nd_lt _ hlt u hu q hq ?_ ?_ q3)
        · rw [← q1, ← u1, Nat.and_comm (aP q), ← Nat.and_assoc, ← Nat.and_assoc, hw]
        · rw [← u2, Nat.and_comm (bP q), ← Nat.and_assoc, hw, Nat.and_assoc, Nat.and_comm (aP p), u2]; exact q2
    · cases h
  · cases h
def stepN (cl : Nat → Nat) (v : Nat) : Option Nat :=
  match tryN cl v 3, tryN cl v 2, tryN cl v 1, tryN cl v 0 with
  | some m, _, _, _ => some m
  | none, some m, _, _ => some m
  | none, none, some m, _ => some m
  | none, none, none, some m => some m
  | none, none, none, none => none
theorem Clo.step {cl : Nat → Nat} (C : Clo cl) {v : Nat} (hv : v < 16) :
    (∃ w, stepN cl v = some w ∧ v < w ∧ cl w = w ∧ w < 16 ∧ ∀ u, u < 16 → cl u = u → v < u → w ≤ u) ∨ (stepN cl v = none ∧ ∀ u, u < 16 → cl u = u → u ≤ v) := by
  unfold stepN
  split
  · rename_i m h3
    exact .inl ⟨m, rfl, C.found hv (p := 3) (by omega) h3 (fun q h1 h2 => absurd h1 (by omega))⟩
  · rename_i m h3 h2
    exact .inl ⟨m, rfl, C.found hv (p := 2) (by omega) h2 (fun q g1 g2 => by
      obtain rfl : q = 3 := by omega
      exact h3)⟩
  · rename_i m h3 h2 h1
    exact .inl ⟨m, rfl, C.found hv (p := 1) (by omega) h1 (fun q g1 g2 => by
      obtain rfl | rfl : q = 3 ∨ q = 2 := by omega
      · exact h3
      · exact h2)⟩
  · rename_i m h3 h2 h1 h0
    exact .inl ⟨m, rfl, C.found hv (p := 0) (by omega) h0 (fun q g1 g2 => by
      obtain rfl | rfl | rfl : q = 3 ∨ q = 2 ∨ q = 1 := by omega
      · exact h3
      · exact h2
      · exact h1)⟩
  · rename_i h3 h2 h1 h0
    refine .inr ⟨rfl, fun u hu hc => Nat.le_of_not_lt fun hvu => ?_⟩
    obtain ⟨q, hq, q1, q2, q3⟩ := nd_part v hv u hu hvu
    obtain ⟨w', g1, g2⟩ := C.hit hv hu hc hq q1 q2 q3
    obtain rfl | rfl | rfl | rfl : q = 3 ∨ q = 2 ∨ q = 1 ∨ q = 0 := by omega
    · rw [h3] at g1; cases g1
    · rw [h2] at g1; cases g1
    · rw [h1] at g1; cases g1
    · rw [h0] at g1; cases g1
def rowsN (cl : Nat → Nat) : Nat → List Nat
  | 0 => [cl 0]
  | i + 1 => rowsN cl i ++ (stepN cl ((rowsN cl i).getLastD 0)).toList
def upTo (cl : Nat → Nat) (n : Nat) : List Nat := (List.range n).filter fun u => cl u == u
theorem upTo_gap {cl : Nat → Nat} {a b : Nat} (hab : a ≤ b) (h : ∀ u, a ≤ u → u < b → cl u ≠ u) : upTo cl b = upTo cl a := by
  induction b with
  | zero =>
    obtain rfl : a = 0 := by omega
    rfl
  | succ b ih =>
    rcases Nat.lt_or_ge b a with q | q
    · obtain rfl : a = b + 1 := by omega
      rfl
    · have e : upTo cl (b + 1) = upTo cl b := by
        unfold upTo
        rw [List.range_succ, List.filter_append, List.filter_cons_of_neg (by simpa using h b q (by omega)), List.filter_nil, List.append_nil]
      rw [e]
      exact ih q fun u h1 h2 => h u h1 (by omega)
theorem upTo_succ {cl : Nat → Nat} {w : Nat} (h : cl w = w) : upTo cl (w + 1) = upTo cl w ++ [w] := by
  unfold upTo
  rw [List.range_succ, List.filter_append, List.filter_cons_of_pos (by simpa using h), List.filter_nil]
theorem Clo.rows {cl : Nat → Nat} (C : Clo cl) (i : Nat) : ∃ v, v < 16 ∧ cl v = v ∧ rowsN cl i = upTo cl (v + 1) ∧ (i ≤ v ∨ ∀ u, u < 16 → cl u = u → u ≤ v) := by
  induction i with
  | zero =>
    refine ⟨cl 0, C.le 0, C.idem 0 (by omega), ?_, .inl (Nat.zero_le _)⟩
    rw [upTo_succ (C.idem 0 (by omega)), upTo_gap (a := 0) (Nat.zero_le _)]
    · rfl
    · intro u _ hu hc
      have hl := C.le 0
      have := C.least 0 u (by omega) (by omega) hc (Nat.zero_and u)
      have h2 : cl 0 ≤ u := by rw [← this]; exact Nat.and_le_right
      omega
  | succ i ih =>
    obtain ⟨v, hv, hc, hr, hi⟩ := ih
    have hlast : (rowsN cl i).getLastD 0 = v := by rw [hr, upTo_succ hc]; simp
    rcases C.step hv with ⟨w, hs, hvw, hcw, hw, hmin⟩ | ⟨hs, hmax⟩
    · refine ⟨w, hw, hcw, ?_, ?_⟩
      · rw [rowsN, hlast, hs, hr, upTo_succ hcw, upTo_gap (a := v + 1) (b := w) (by omega)]
        · rfl
        · intro u h1 h2 h3
          have := hmin u (by omega) h3 (by omega)
          omega
      · rcases hi with hi | hi
        · left; omega
        · have := hi w hw hcw; omega
    · refine ⟨v, hv, hc, ?_, .inr hmax⟩
      rw [rowsN, hlast, hs, hr]; simp
theorem Clo.all {cl : Nat → Nat} (C : Clo cl) : rowsN cl 16 = upTo cl 16 := by
  obtain ⟨v, hv, hc, hr, hi⟩ := C.rows 16
  rw [hr, upTo_gap (a := v + 1) (b := 16) (by omega)]
  intro u h1 h2 h3
  rcases hi with hi | hi
  · omega
  · have := hi u h2 h3; omega
theorem rowsN_ne {cl : Nat → Nat} (i : Nat) : rowsN cl i ≠ [] := by
  induction i with
  | zero => simp [rowsN]
  | succ i ih => rw [rowsN]; simp [ih]
/-- the closure that some masks bring -/
def clN (ms : List Nat) (x : Nat) : Nat := (ms.filter fun m => x &&& m == x).foldl (· &&& ·) 15
theorem fold_sub (l : List Nat) : ∀ a x : Nat, x &&& a = x → (∀ m ∈ l, x &&& m = x) → x &&& l.foldl (· &&& ·) a = x := by
  induction l with
  | nil => exact fun a x h _ => h
  | cons m l ih =>
    intro a x h hm
    refine ih (a &&& m) x ?_ fun m' h' => hm m' (.tail _ h')
    rw [← Nat.and_assoc, h, hm m (.head _)]
theorem fold_le (l : List Nat) : ∀ a : Nat, l.foldl (· &&& ·) a &&& a = l.foldl (· &&& ·) a := by
  induction l with
  | nil => exact fun a => Nat.and_self a
  | cons m l ih =>
    intro a
    show l.foldl (· &&& ·) (a &&& m) &&& a = l.foldl (· &&& ·) (a &&& m)
    exact sub_trans (ih (a &&& m)) (by rw [Nat.and_assoc, Nat.and_comm m, ← Nat.and_assoc, Nat.and_self])
theorem fold_mem (l : List Nat) : ∀ (a m : Nat), m ∈ l → l.foldl (· &&& ·) a &&& m = l.foldl (· &&& ·) a := by
  induction l with
  | nil => exact fun a m h => absurd h List.not_mem_nil
  | cons k l ih =>
    intro a m h
    show l.foldl (· &&& ·) (a &&& k) &&& m = l.foldl (· &&& ·) (a &&& k)
    rcases List.mem_cons.mp h with rfl | h
    · exact sub_trans (fold_le l (a &&& m)) (by rw [Nat.and_assoc, Nat.and_self])
    · exact ih _ m h
theorem and15 {x : Nat} (h : x < 16) : x &&& 15 = x := by
  have := Nat.and_two_pow_sub_one_eq_mod x 4
  rw [show (2 : Nat) ^ 4 - 1 = 15 from rfl, show (2 : Nat) ^ 4 = 16 from rfl, Nat.mod_eq_of_lt h] at this
  exact this
theorem clN_clo (ms : List Nat) : Clo (clN ms) := by
  have hle : ∀ x, clN ms x < 16 := fun x => by
    have : clN ms x &&& 15 ≤ 15 := Nat.and_le_right
    have h2 : clN ms x &&& 15 = clN ms x := fold_le _ 15
    rw [h2] at this; omega
  have hext : ∀ x, x < 16 → x &&& clN ms x = x := fun x hx => fold_sub _ 15 x (and15 hx) fun m hm => by simpa using (List.mem_filter.mp hm).2
  have hsame : ∀ x m, x < 16 → m ∈ ms → ((clN ms x &&& m == clN ms x) = (x &&& m == x)) := fun x m hx hm => by
    rw [Bool.eq_iff_iff]
    constructor
    · intro h
      rw [beq_iff_eq] at h ⊢
      exact sub_trans (hext x hx) h
    · intro h
      rw [beq_iff_eq]
      exact fold_mem _ 15 m (List.mem_filter.mpr ⟨hm, h⟩)
  refine ⟨hle, hext, fun x u hx hu hc hxu => ?_, fun x hx => ?_⟩
  · rw [← hc]
    refine fold_sub _ 15 _ (and15 (hle x)) fun m hm => ?_
    obtain ⟨h1, h2⟩ := List.mem_filter.mp hm
    refine fold_mem _ 15 m (List.mem_filter.mpr ⟨h1, ?_⟩)
    rw [beq_iff_eq] at h2 ⊢
    exact sub_trans hxu h2
  · show (ms.filter fun m => clN ms x &&& m == clN ms x).foldl (· &&& ·) 15 = (ms.filter fun m => x &&& m == x).foldl (· &&& ·) 15
    rw [List.filter_congr fun m hm => hsame x m hx hm]
def fndN (ms : List Nat) : List Nat := ms.foldl (fun acc m => acc ++ acc.map (· &&& m)) [15]
theorem fndN_snoc (ms : List Nat) (m : Nat) : fndN (ms ++ [m]) = fndN ms ++ (fndN ms).map (· &&& m) := by
  unfold fndN; rw [List.foldl_append]; rfl
theorem clN_snoc (ms : List Nat) (m x : Nat) : clN (ms ++ [m]) x = if x &&& m = x then clN ms x &&& m else clN ms x := by
  unfold clN
  rw [List.filter_append, List.foldl_append]
  by_cases h : x &&& m = x
  · rw [if_pos h, List.filter_cons_of_pos (by simpa using h)]; rfl
  · rw [if_neg h, List.filter_cons_of_neg (by simpa using h)]; rfl
/-- what the founds hold: the shares of some of the masks; so: the full sets -/
theorem fnd_lt (ms : List Nat) : ∀ x ∈ fndN ms, x < 16 := by
  unfold fndN
  suffices h : ∀ (ms acc : List Nat), (∀ x ∈ acc, x < 16) → ∀ x ∈ ms.foldl (fun acc m => acc ++ acc.map (· &&& m)) acc, x < 16 from h ms [15] (fun x hx => by rw [List.mem_singleton.mp hx]; decide)
  intro ms
  induction ms with
  | nil => exact fun acc h => h
  | cons m ms ih =>
    intro acc h
    refine ih _ fun x hx => ?_
    rcases List.mem_append.mp hx with hx | hx
    · exact h x hx
    · obtain ⟨y, hy, rfl⟩ := List.mem_map.mp hx
      exact Nat.lt_of_le_of_lt Nat.and_le_left (h y hy)
/-- every found set is the share of the masks that hold it -/
theorem fnd_cl (l : List Nat) : ∀ (ms acc : List Nat), (∀ m ∈ l, m ∈ ms) → (∀ x ∈ acc, x < 16 ∧ clN ms x = x) → ∀ x ∈ l.foldl (fun acc m => acc ++ acc.map (· &&& m)) acc, clN ms x = x := by
  induction l with
  | nil => exact fun ms acc _ h x hx => (h x hx).2
  | cons m l ih =>
    intro ms acc hl h
    refine ih ms _ (fun m' hm' => hl m' (.tail _ hm')) fun x hx => ?_
    rcases List.mem_append.mp hx with hx | hx
    · exact h x hx
    · obtain ⟨y, hy, rfl⟩ := List.mem_map.mp hx
      obtain ⟨hy1, hy2⟩ := h y hy
      have hlt : y &&& m < 16 := Nat.lt_of_le_of_lt Nat.and_le_left hy1
      refine ⟨hlt, ?_⟩
      have C := clN_clo ms
      have s1 : clN ms (y &&& m) &&& m = clN ms (y &&& m) := fold_mem _ 15 m (List.mem_filter.mpr ⟨hl m (.head _), by rw [beq_iff_eq, Nat.and_assoc, Nat.and_self]⟩)
      have s2 : clN ms (y &&& m) &&& y = clN ms (y &&& m) := C.least _ y hlt hy1 hy2 (by rw [Nat.and_assoc, Nat.and_comm m, ← Nat.and_assoc, Nat.and_self])
      have s3 : clN ms (y &&& m) &&& (y &&& m) = clN ms (y &&& m) := by rw [← Nat.and_assoc, s2, s1]
      have s4 := C.ext _ hlt
      rw [Nat.and_comm, s3] at s4
      exact s4
theorem clN_in (ms : List Nat) (x : Nat) : clN ms x ∈ fndN ms := by
  suffices h : ∀ (l : List Nat) (a : Nat) (acc : List Nat), a ∈ acc → (l.filter fun m => x &&& m == x).foldl (· &&& ·) a ∈ l.foldl (fun acc m => acc ++ acc.map (· &&& m)) acc from h ms 15 [15] (.head _)
  intro l
  induction l with
  | nil => exact fun a acc h => h
  | cons m l ih =>
    intro a acc h
    by_cases hm : (x &&& m == x) = true
    · rw [List.filter_cons_of_pos (p := fun m => x &&& m == x) hm]
      exact ih _ _ (List.mem_append_right _ (List.mem_map_of_mem h))
    · rw [List.filter_cons_of_neg (p := fun m => x &&& m == x) hm]
      exact ih _ _ (List.mem_append_left _ h)
theorem fnd_iff (ms : List Nat) (x : Nat) : x ∈ fndN ms ↔ clN ms x = x := by
  constructor
  · refine fnd_cl ms ms [15] (fun _ h => h) (fun x hx => ?_) x
    rw [List.mem_singleton.mp hx]
    refine ⟨by decide, ?_⟩
    have e := (clN_clo ms).ext 15 (by decide)
    rw [Nat.and_comm, and15 ((clN_clo ms).le 15)] at e
    exact e
  · intro h
    rw [← h]
    exact clN_in ms x
end
end Mine
namespace Mine
open PySem PySem.W PyProof.Rows
section
/-- four bits' worths as one number of the bits' own; and back -/
def toN (e0 e1 e2 e3 v : Nat) : Nat := (if v.testBit 3 then 2 ^ e0 else 0) ||| ((if v.testBit 2 then 2 ^ e1 else 0) ||| ((if v.testBit 1 then 2 ^ e2 else 0) ||| (if v.testBit 0 then 2 ^ e3 else 0)))
def mkB (a b c d : Bool) : Nat := (if a then 8 else 0) + ((if b then 4 else 0) + ((if c then 2 else 0) + (if d then 1 else 0)))
def mkN (e0 e1 e2 e3 x : Nat) : Nat := mkB (x.testBit e0) (x.testBit e1) (x.testBit e2) (x.testBit e3)
theorem mkB_bits (a b c d : Bool) : (mkB a b c d).testBit 3 = a ∧ (mkB a b c d).testBit 2 = b ∧ (mkB a b c d).testBit 1 = c ∧ (mkB a b c d).testBit 0 = d ∧ mkB a b c d < 16 := by
  cases a <;> cases b <;> cases c <;> cases d <;> decide
theorem bit_if (c : Bool) (e j : Nat) : (if c then 2 ^ e else 0 : Nat).testBit j = (c && decide (e = j)) := by
  cases c
  · simp
  · simp [Nat.testBit_two_pow]
theorem toN_bit (e0 e1 e2 e3 v j : Nat) : (toN e0 e1 e2 e3 v).testBit j = ((v.testBit 3 && decide (e0 = j)) || ((v.testBit 2 && decide (e1 = j)) || ((v.testBit 1 && decide (e2 = j)) || (v.testBit 0 && decide (e3 = j))))) := by
  unfold toN
  rw [Nat.testBit_or, Nat.testBit_or, Nat.testBit_or, bit_if, bit_if, bit_if, bit_if]
theorem and_dec (x e j : Nat) (v : Bool) : ((v && decide (e = j)) && x.testBit j) = ((v && x.testBit e) && decide (e = j)) := by
  by_cases h : e = j
  · subst h; simp
  · simp [h]
theorem toN_and (e0 e1 e2 e3 v x : Nat) : toN e0 e1 e2 e3 v &&& x = toN e0 e1 e2 e3 (v &&& mkN e0 e1 e2 e3 x) := by
  refine Nat.eq_of_testBit_eq fun j => ?_
  obtain ⟨h3, h2, h1, h0, _⟩ := mkB_bits (x.testBit e0) (x.testBit e1) (x.testBit e2) (x.testBit e3)
  rw [Nat.testBit_and, toN_bit, toN_bit, Nat.testBit_and, Nat.testBit_and, Nat.testBit_and, Nat.testBit_and]
  unfold mkN
  rw [h3, h2, h1, h0]
  simp only [Bool.and_or_distrib_right, and_dec]
/-- what the bits' list is: place p is 2 ^ e p, all of them apart -/
def eT (t p : Nat) : Nat := (t % 16 + p * [1, 3, 5, 7].getD (t / 16) 0) % 16
def bT (t : Nat) : List Int := [((2 ^ eT t 0 : Nat) : Int), ((2 ^ eT t 1 : Nat) : Int), ((2 ^ eT t 2 : Nat) : Int), ((2 ^ eT t 3 : Nat) : Int)]
def tT (t v : Nat) : Nat := toN (eT t 0) (eT t 1) (eT t 2) (eT t 3) v
def mT (t x : Nat) : Nat := mkN (eT t 0) (eT t 1) (eT t 2) (eT t 3) x
theorem bt_tell : ∀ t < 64, ∀ v < 16, (tellN (bT t) ((v : Nat) : Int) 4).sum = ((tT t v : Nat) : Int) := by decide +kernel
theorem bt_sum : ∀ t < 64, (bT t).sum = ((tT t 15 : Nat) : Int) := by decide +kernel
theorem bt_back : ∀ t < 64, ∀ v < 16, mT t (tT t v) = v := by decide +kernel
theorem bt_bit : ∀ t < 64, ∀ p < 4, (bT t).getD p 0 = ((tT t (bP p) : Nat) : Int) := by decide +kernel
theorem bt_ahead : ∀ t < 64, ∀ p < 4, ((bT t).take p).sum = ((tT t (aP p) : Nat) : Int) := by decide +kernel
theorem bt_add : ∀ t < 64, ∀ v < 16, ∀ p < 4, tT t (v &&& aP p) + tT t (bP p) = tT t ((v &&& aP p) + bP p) := by decide +kernel
theorem tT_and (t v x : Nat) : tT t v &&& x = tT t (v &&& mT t x) := toN_and ..
theorem mT_lt (t x : Nat) : mT t x < 16 := (mkB_bits _ _ _ _).2.2.2.2
theorem tT_inj {t v w : Nat} (ht : t < 64) (hv : v < 16) (hw : w < 16) (h : tT t v = tT t w) : v = w := by
  rw [← bt_back t ht v hv, ← bt_back t ht w hw, h]
theorem tT_and2 {t v w : Nat} (ht : t < 64) (hw : w < 16) : tT t v &&& tT t w = tT t (v &&& w) := by
  rw [tT_and, bt_back t ht w hw]
theorem ba_cast (a b : Nat) : Builtin.bitAnd (a : Int) (b : Int) = ((a &&& b : Nat) : Int) := by
  rw [bitAnd_pp (Int.natCast_nonneg _) (Int.natCast_nonneg _)]; simp
theorem ba_4095 (f : Nat) : Builtin.bitAnd (f : Int) 4095 = ((f % 4096 : Nat) : Int) := by
  have := Nat.and_two_pow_sub_one_eq_mod f 12
  rw [show (4095 : Int) = ((4095 : Nat) : Int) from rfl, ba_cast]
  rw [show (2 : Nat) ^ 12 - 1 = 4095 from rfl, show (2 : Nat) ^ 12 = 4096 from rfl] at this
  rw [this]
/-- a file's mask -/
def mF (t : Nat) (f : Int) : Nat := mT t (f.toNat % 4096)
theorem lt_and {a b : Nat} (h : a < 16) : a &&& b < 16 := Nat.lt_of_le_of_lt Nat.and_le_left h
theorem full_test {t w : Nat} (ht : t < 64) (hw : w < 16) {f : Int} (hf : 0 ≤ f) :
    (Builtin.bitAnd (Builtin.bitAnd f 4095) ((tT t w : Nat) : Int) != ((tT t w : Nat) : Int)) = !(w &&& mF t f == w) := by
  obtain ⟨n, rfl⟩ := Int.eq_ofNat_of_zero_le hf
  rw [ba_4095, ba_cast, Nat.and_comm, tT_and]
  show _ = !(w &&& mT t (n % 4096) == w)
  rw [Bool.eq_iff_iff]
  simp only [bne_iff_ne, ne_eq, Int.natCast_inj, Bool.not_eq_true', beq_eq_false_iff_ne]
  constructor
  · intro h e; exact h (by rw [e])
  · intro h e; exact h (tT_inj ht (lt_and hw) hw e)
theorem full_fold {t : Nat} (fs : List Int) : ∀ (a : Nat), a < 16 → (∀ f ∈ fs, 0 ≤ f) → fs.foldl (fun a b => Builtin.bitAnd a (Builtin.bitAnd b 4095)) ((tT t a : Nat) : Int) = ((tT t ((fs.map (mF t)).foldl (· &&& ·) a) : Nat) : Int) := by
  induction fs with
  | nil => exact fun a _ _ => rfl
  | cons f fs ih =>
    intro a ha h
    obtain ⟨n, hn⟩ := Int.eq_ofNat_of_zero_le (h f (.head _))
    have e : Builtin.bitAnd ((tT t a : Nat) : Int) (Builtin.bitAnd f 4095) = ((tT t (a &&& mF t f) : Nat) : Int) := by
      rw [hn, ba_4095, ba_cast, tT_and]; rfl
    rw [List.foldl_cons, e]
    exact ih _ (lt_and ha) fun f' h' => h f' (.tail _ h')
theorem full_N {t w : Nat} (ht : t < 64) (hw : w < 16) {fs : List Int} (hf : ∀ f ∈ fs, 0 ≤ f) :
    fullI fs (bT t) ((tT t w : Nat) : Int) = ((tT t (clN (fs.map (mF t)) w) : Nat) : Int) := by
  unfold fullI clN
  rw [bt_sum t ht]
  have e : fs.filter (fun f => !(fs.filter (fun a => Builtin.bitAnd (Builtin.bitAnd a 4095) ((tT t w : Nat) : Int) != ((tT t w : Nat) : Int))).contains f) = fs.filter (fun f => w &&& mF t f == w) := by
    refine List.filter_congr fun f hm => ?_
    have e2 : (fs.filter (fun a => Builtin.bitAnd (Builtin.bitAnd a 4095) ((tT t w : Nat) : Int) != ((tT t w : Nat) : Int))).contains f = !(w &&& mF t f == w) := by
      rw [← full_test ht hw (hf f hm), Bool.eq_iff_iff]
      simp only [List.contains_iff_mem, List.mem_filter]
      exact ⟨fun h => h.2, fun h => ⟨hm, h⟩⟩
    rw [e2, Bool.not_not]
  rw [e, full_fold _ 15 (by decide) fun f h => hf f (List.mem_filter.mp h).1, List.filter_map]
  rfl
theorem try_N {t v p : Nat} (ht : t < 64) (hv : v < 16) (hp : p < 4) {fs : List Int} (hf : ∀ f ∈ fs, 0 ≤ f) :
    tryI fs (bT t) ((tT t v : Nat) : Int) p = (tryN (clN (fs.map (mF t))) v p).map fun w => ((tT t w : Nat) : Int) := by
  have C := clN_clo (fs.map (mF t))
  have bl : bP p < 16 := by
    obtain rfl | rfl | rfl | rfl : p = 0 ∨ p = 1 ∨ p = 2 ∨ p = 3 := by omega
    all_goals decide
  have al : aP p < 16 := by
    obtain rfl | rfl | rfl | rfl : p = 0 ∨ p = 1 ∨ p = 2 ∨ p = 3 := by omega
    all_goals decide
  obtain ⟨x1, _, _⟩ := nd_x v hv p hp
  have z : tT t 0 = 0 := by unfold tT toN; simp
  unfold tryI tryN
  rw [bt_bit t ht p hp, bt_ahead t ht p hp, ba_cast, ba_cast, tT_and2 ht bl, tT_and2 ht al, ← Int.natCast_add, bt_add t ht v hv p hp, full_N ht x1 hf, ba_cast, tT_and2 ht al]
  have i1 : ((tT t (v &&& bP p) : Nat) : Int) = 0 ↔ v &&& bP p = 0 := by
    constructor
    · intro h
      exact tT_inj ht (lt_and hv) (by decide) (by rw [z]; exact Int.natCast_inj.mp h)
    · intro h; rw [h, z]; rfl
  have i2 : ∀ w, w < 16 → (((tT t (w &&& aP p) : Nat) : Int) = ((tT t (v &&& aP p) : Nat) : Int) ↔ w &&& aP p = v &&& aP p) := by
    intro w hw
    constructor
    · intro h
      exact tT_inj ht (lt_and hw) (lt_and hv) (Int.natCast_inj.mp h)
    · intro h; rw [h]
  by_cases h1 : v &&& bP p = 0
  · rw [if_pos (i1.mpr h1), if_pos h1]
    by_cases h2 : clN (fs.map (mF t)) ((v &&& aP p) + bP p) &&& aP p = v &&& aP p
    · rw [if_pos ((i2 _ (C.le _)).mpr h2), if_pos h2]; rfl
    · rw [if_neg fun h => h2 ((i2 _ (C.le _)).mp h), if_neg h2]; rfl
  · rw [if_neg fun h => h1 (i1.mp h), if_neg h1]; rfl
theorem step_N {t v : Nat} (ht : t < 64) (hv : v < 16) {fs : List Int} (hf : ∀ f ∈ fs, 0 ≤ f) :
    stepI fs (bT t) ((tT t v : Nat) : Int) = (stepN (clN (fs.map (mF t))) v).toList.map fun w => ((tT t w : Nat) : Int) := by
  unfold stepI stepN
  rw [try_N ht hv (by omega) hf, try_N ht hv (by omega) hf, try_N ht hv (by omega) hf, try_N ht hv (by omega) hf]
  cases tryN (clN (fs.map (mF t))) v 3 <;> cases tryN (clN (fs.map (mF t))) v 2 <;> cases tryN (clN (fs.map (mF t))) v 1 <;> cases tryN (clN (fs.map (mF t))) v 0 <;> rfl
/-- the walk's rows -/
def rowsI (fs bs : List Int) : Nat → List Int
  | 0 => [fullI fs bs 0]
  | i + 1 => rowsI fs bs i ++ stepI fs bs ((rowsI fs bs i).getLastD 0)
theorem rows_N {t : Nat} (ht : t < 64) {fs : List Int} (hf : ∀ f ∈ fs, 0 ≤ f) (i : Nat) : rowsI fs (bT t) i = (rowsN (clN (fs.map (mF t))) i).map fun w => ((tT t w : Nat) : Int) := by
  induction i with
  | zero =>
    have z : tT t 0 = 0 := by unfold tT toN; simp
    have h0 := full_N (w := 0) ht (by decide) hf
    rw [z] at h0
    show [fullI fs (bT t) 0] = [_]
    rw [show (0 : Int) = ((0 : Nat) : Int) from rfl, h0]
  | succ i ih =>
    obtain ⟨v, hv, hc, hr, _⟩ := (clN_clo (fs.map (mF t))).rows i
    have hl : (rowsN (clN (fs.map (mF t))) i).getLastD 0 = v := by rw [hr, upTo_succ hc]; simp
    have hl2 : ((rowsN (clN (fs.map (mF t))) i).map fun w => ((tT t w : Nat) : Int)).getLastD 0 = ((tT t v : Nat) : Int) := by rw [hr, upTo_succ hc]; simp
    rw [rowsI, ih, hl2, step_N ht hv hf, rowsN, hl, List.map_append]
theorem rowsI_ne (fs bs : List Int) (i : Nat) : rowsI fs bs i ≠ [] := by
  induction i with
  | zero => simp [rowsI]
  | succ i ih => rw [rowsI]; simp [ih]
theorem rowsI_len {t : Nat} (ht : t < 64) {fs : List Int} (hf : ∀ f ∈ fs, 0 ≤ f) (i : Nat) : (rowsI fs (bT t) i).length ≤ 64 := by
  rw [rows_N ht hf, List.length_map]
  obtain ⟨v, hv, hc, hr, _⟩ := (clN_clo (fs.map (mF t))).rows i
  rw [hr]
  refine Nat.le_trans (List.length_filter_le _ _) ?_
  rw [List.length_range]; omega
/-- the shares found -/
def fndI (bs fs : List Int) : List Int := fs.foldl (fun acc f => acc ++ acc.map (fun one => Builtin.bitAnd one (worthI bs f))) [15]
theorem fndI_snoc (bs fs : List Int) (f : Int) : fndI bs (fs ++ [f]) = fndI bs fs ++ (fndI bs fs).map (fun one => Builtin.bitAnd one (worthI bs f)) := by
  unfold fndI; rw [List.foldl_append]; rfl
theorem fndI_len (bs : List Int) (fs : List Int) : (fndI bs fs).length = 2 ^ fs.length := by
  unfold fndI
  suffices h : ∀ (fs acc : List Int), (fs.foldl (fun acc f => acc ++ acc.map (fun one => Builtin.bitAnd one (worthI bs f))) acc).length = acc.length * 2 ^ fs.length by
    rw [h]; simp
  intro fs
  induction fs with
  | nil => intro acc; simp
  | cons f fs ih =>
    intro acc
    rw [List.foldl_cons, ih, List.length_append, List.length_map, List.length_cons, Nat.pow_succ, ← Nat.two_mul, Nat.mul_comm 2, Nat.mul_assoc, Nat.mul_comm 2]
def foundsI (bs fs : List Int) (i : Nat) : List Int := fndI bs (fs.take i)
def toldsI (bs fs : List Int) (i : Nat) : List Int := ((List.range (min i 16)).filter fun (k : Nat) => (foundsI bs fs 4).any fun x => x == (k : Int)).map fun (k : Nat) => (tellN bs (k : Int) 4).sum
theorem toldsI_len (bs fs : List Int) (i : Nat) : (toldsI bs fs i).length ≤ 64 := by
  unfold toldsI
  rw [List.length_map]
  refine Nat.le_trans (List.length_filter_le _ _) ?_
  rw [List.length_range]; omega
theorem toldsI_succ (bs fs : List Int) (i : Nat) (hi : i < 16) : toldsI bs fs (i + 1) = if ((foundsI bs fs 4).any fun x => x == (i : Int)) = true then toldsI bs fs i ++ [(tellN bs (i : Int) 4).sum] else toldsI bs fs i := by
  unfold toldsI
  rw [show min (i + 1) 16 = i + 1 from by omega, show min i 16 = i from by omega, List.range_succ, List.filter_append, List.map_append]
  by_cases h : ((foundsI bs fs 4).any fun x => x == (i : Int)) = true
  · rw [if_pos h, List.filter_cons_of_pos (by simpa using h)]; rfl
  · rw [if_neg h, List.filter_cons_of_neg (by simpa using h)]; simp
theorem foundsI_len (bs fs : List Int) (hl : fs.length ≤ 4) (i : Nat) : (foundsI bs fs i).length ≤ 64 := by
  unfold foundsI
  rw [fndI_len]
  have : (fs.take i).length ≤ 4 := by rw [List.length_take]; omega
  exact Nat.le_trans (Nat.pow_le_pow_right (by decide) this) (by decide)
theorem foundsI_succ (bs fs : List Int) (i : Nat) (fi : Int) (h : fs[i]? = some fi) : foundsI bs fs (i + 1) = foundsI bs fs i ++ (foundsI bs fs i).map (fun one => Builtin.bitAnd one (worthI bs fi)) := by
  unfold foundsI
  rw [List.take_add_one, h]
  exact fndI_snoc ..
theorem fmod_bit (n e : Nat) : ((((n : Int).fmod 4096).fdiv ((2 ^ e : Nat) : Int)).fmod 2 = 1) ↔ (n % 4096).testBit e = true := by
  rw [Int.fmod_eq_emod_of_nonneg _ (by decide), Int.fdiv_eq_ediv_of_nonneg _ (Int.natCast_nonneg _), Int.fmod_eq_emod_of_nonneg _ (by decide), Nat.testBit_eq_decide_div_mod_eq, decide_eq_true_eq]
  rw [show ((n : Int) % 4096) = ((n % 4096 : Nat) : Int) from rfl, ← Int.natCast_ediv]
  omega
theorem worth_N {t : Nat} {f : Int} (hf : 0 ≤ f) : worthI (bT t) f = ((mF t f : Nat) : Int) := by
  obtain ⟨n, rfl⟩ := Int.eq_ofNat_of_zero_le hf
  unfold worthI mF mT mkN
  have g : ∀ p, p < 4 → ((bT t).getD p 0 = ((2 ^ eT t p : Nat) : Int)) := fun p hp => by
    obtain rfl | rfl | rfl | rfl : p = 0 ∨ p = 1 ∨ p = 2 ∨ p = 3 := by omega
    all_goals rfl
  have k : ∀ p, p < 4 → (((((n : Int).fmod 4096).fdiv ((bT t).getD p 0)).fmod 2 = 1) ↔ (n % 4096).testBit (eT t p) = true) := fun p hp => by
    rw [g p hp]; exact fmod_bit n _
  have k0 := k 0 (by omega)
  have k1 := k 1 (by omega)
  have k2 := k 2 (by omega)
  have k3 := k 3 (by omega)
  show ((selN (bT t) (n : Int) 4).map w8).sum = ((mkB ((n % 4096).testBit (eT t 0)) ((n % 4096).testBit (eT t 1)) ((n % 4096).testBit (eT t 2)) ((n % 4096).testBit (eT t 3)) : Nat) : Int)
  simp only [selN, k0, k1, k2, k3]
  cases (n % 4096).testBit (eT t 0) <;> cases (n % 4096).testBit (eT t 1) <;> cases (n % 4096).testBit (eT t 2) <;> cases (n % 4096).testBit (eT t 3) <;> rfl
theorem fnd_N {t : Nat} {fs : List Int} (hf : ∀ f ∈ fs, 0 ≤ f) : fndI (bT t) fs = (fndN (fs.map (mF t))).map fun x => ((x : Nat) : Int) := by
  unfold fndI fndN
  suffices h : ∀ (fs : List Int) (acc : List Nat), (∀ f ∈ fs, 0 ≤ f) → fs.foldl (fun acc f => acc ++ acc.map (fun one => Builtin.bitAnd one (worthI (bT t) f))) (acc.map fun x => ((x : Nat) : Int)) = ((fs.map (mF t)).foldl (fun acc m => acc ++ acc.map (· &&& m)) acc).map fun x => ((x : Nat) : Int) from h fs [15] hf
  intro fs
  induction fs with
  | nil => exact fun _ _ => rfl
  | cons f fs ih =>
    intro acc h
    rw [List.foldl_cons, List.map_cons, List.foldl_cons, ← ih _ fun f' h' => h f' (.tail _ h')]
    congr 1
    rw [List.map_append, List.map_map, List.map_map]
    congr 1
    refine List.map_congr_left fun x _ => ?_
    show Builtin.bitAnd (x : Int) (worthI (bT t) f) = ((x &&& mF t f : Nat) : Int)
    rw [worth_N (h f (.head _)), ba_cast]
/-- what the statement asks -/
theorem plain_law {t : Nat} (ht : t < 64) {fs : List Int} (hl : fs.length ≤ 4) (hf : ∀ f ∈ fs, 0 ≤ f) : rowsI fs (bT t) 16 = toldsI (bT t) fs 16 := by
  have C := clN_clo (fs.map (mF t))
  rw [rows_N ht hf, C.all]
  unfold toldsI upTo
  have e : foundsI (bT t) fs 4 = (fndN (fs.map (mF t))).map fun x => ((x : Nat) : Int) := by
    unfold foundsI
    rw [List.take_of_length_le hl]
    exact fnd_N hf
  rw [e]
  have e2 : (List.range (min 16 16)).filter (fun (k : Nat) => ((fndN (fs.map (mF t))).map fun x => ((x : Nat) : Int)).any fun x => x == (k : Int)) = (List.range 16).filter fun u => clN (fs.map (mF t)) u == u := by
    refine List.filter_congr fun k _ => ?_
    rw [Bool.eq_iff_iff, beq_iff_eq, ← fnd_iff]
    simp only [List.any_map, List.any_eq_true, Function.comp, beq_iff_eq, Int.natCast_inj]
    exact ⟨fun ⟨x, hx, e⟩ => e ▸ hx, fun h => ⟨k, h, rfl⟩⟩
  rw [e2]
  refine List.map_congr_left fun k hk => ?_
  exact (bt_tell t ht k (List.mem_range.mp (List.mem_filter.mp hk).1)).symm
end
end Mine
namespace Mine
open PySem PySem.W PyProof.Rows PySem.Spec PySem.Calls
section
theorem rk4 : rangeKs 0 (4 - 0 : Int).toNat = [0, 1, 2, 3] := by decide +kernel
theorem ints4 {ys : List Value} {a b c d : Int} (h : IntsAre ys [a, b, c, d]) : ∃ t0 t1 t2 t3, ys = [.int a t0, .int b t1, .int c t2, .int d t3] := by
  obtain ⟨t0, y1, rfl, h1⟩ := IntsAre.cons_inv h
  obtain ⟨t1, y2, rfl, h2⟩ := IntsAre.cons_inv h1
  obtain ⟨t2, y3, rfl, h3⟩ := IntsAre.cons_inv h2
  obtain ⟨t3, y4, rfl, h4⟩ := IntsAre.cons_inv h3
  cases h4
  exact ⟨t0, t1, t2, t3, rfl⟩
theorem files_form {ys : List Value} {F : Int → Int} (h : IntsAre ys (List.map (fun k => (F k).fmod 65536) (rangeKs 0 (4 - 0 : Int).toNat))) :
    ∃ f0 f1 f2 f3 t0 t1 t2 t3, ys = [.int f0 t0, .int f1 t1, .int f2 t2, .int f3 t3] ∧ ∀ f ∈ [f0, f1, f2, f3], 0 ≤ f := by
  rw [rk4] at h
  obtain ⟨t0, t1, t2, t3, e⟩ := ints4 h
  refine ⟨_, _, _, _, t0, t1, t2, t3, e, fun f hf => ?_⟩
  have g : ∀ k, 0 ≤ (F k).fmod 65536 := fun k => by rw [Int.fmod_eq_emod_of_nonneg _ (by decide)]; exact Int.emod_nonneg _ (by decide)
  simp only [List.mem_cons, List.not_mem_nil, or_false] at hf
  rcases hf with rfl | rfl | rfl | rfl <;> exact g _
theorem bits_all : ∀ t < 64, ∀ p < 4, (if 0 ≤ ((t : Nat) : Int) ∧ ((t : Nat) : Int) < 64 ∧ 0 ≤ (((t : Nat) : Int).fmod 16 + ((p : Nat) : Int) * [1, 3, 5, 7].getD (((t : Nat) : Int).fdiv 16).toNat 0).fmod 16 ∧ (((t : Nat) : Int).fmod 16 + ((p : Nat) : Int) * [1, 3, 5, 7].getD (((t : Nat) : Int).fdiv 16).toNat 0).fmod 16 < 16 ∧ 0 ≤ ((t : Nat) : Int).fmod 16 ∧ ((t : Nat) : Int).fmod 16 < 16 then (2 : Int) ^ ((((t : Nat) : Int).fmod 16 + ((p : Nat) : Int) * [1, 3, 5, 7].getD (((t : Nat) : Int).fdiv 16).toNat 0).fmod 16).toNat else ((p : Nat) : Int)) = ((2 ^ eT t p : Nat) : Int) := by decide +kernel
theorem bits_form {ys : List Value} {X : Int} {F : Int → Int} (h : IntsAre ys (List.map F (rangeKs 0 (4 - 0 : Int).toNat)))
    (hF : ∀ k, F k = if 0 ≤ X.fmod 64 ∧ X.fmod 64 < 64 ∧ 0 ≤ ((X.fmod 64).fmod 16 + k * [1, 3, 5, 7].getD ((X.fmod 64).fdiv 16).toNat 0).fmod 16 ∧ ((X.fmod 64).fmod 16 + k * [1, 3, 5, 7].getD ((X.fmod 64).fdiv 16).toNat 0).fmod 16 < 16 ∧ 0 ≤ (X.fmod 64).fmod 16 ∧ (X.fmod 64).fmod 16 < 16 then (2 : Int) ^ (((X.fmod 64).fmod 16 + k * [1, 3, 5, 7].getD ((X.fmod 64).fdiv 16).toNat 0).fmod 16).toNat else k) :
    ∃ t < 64, ∃ b0 b1 b2 b3 t0 t1 t2 t3, ys = [.int b0 t0, .int b1 t1, .int b2 t2, .int b3 t3] ∧ [b0, b1, b2, b3] = bT t ∧ (0 < b0 ∧ 0 < b1 ∧ 0 < b2 ∧ 0 < b3) ∧ b0 ≤ 32768 ∧ b1 ≤ 32768 ∧ b2 ≤ 32768 ∧ b3 ≤ 32768 := by
  rw [rk4] at h
  obtain ⟨t0, t1, t2, t3, e⟩ := ints4 h
  have g0 : 0 ≤ X.fmod 64 := by rw [Int.fmod_eq_emod_of_nonneg _ (by decide)]; exact Int.emod_nonneg _ (by decide)
  have g1 : X.fmod 64 < 64 := by rw [Int.fmod_eq_emod_of_nonneg _ (by decide)]; exact Int.emod_lt_of_pos _ (by decide)
  obtain ⟨t, ht⟩ := Int.eq_ofNat_of_zero_le g0
  rw [ht] at hF g1
  have ht64 : t < 64 := by omega
  have k : ∀ p : Nat, p < 4 → F (p : Int) = ((2 ^ eT t p : Nat) : Int) := fun p hp => by rw [hF]; exact bits_all t ht64 p hp
  have r : ∀ p : Nat, 0 < ((2 ^ eT t p : Nat) : Int) ∧ ((2 ^ eT t p : Nat) : Int) ≤ 32768 := fun p => by
    have h1 : 0 < 2 ^ eT t p := Nat.two_pow_pos _
    have h2 : eT t p ≤ 15 := by unfold eT; omega
    have h3 : 2 ^ eT t p ≤ 2 ^ 15 := Nat.pow_le_pow_right (by decide) h2
    rw [show (2 : Nat) ^ 15 = 32768 from rfl] at h3
    omega
  have k0 := k 0 (by decide)
  have k1 := k 1 (by decide)
  have k2 := k 2 (by decide)
  have k3 := k 3 (by decide)
  refine ⟨t, ht64, F 0, F 1, F 2, F 3, t0, t1, t2, t3, e, ?_, ?_⟩
  · show _ = [((2 ^ eT t 0 : Nat) : Int), ((2 ^ eT t 1 : Nat) : Int), ((2 ^ eT t 2 : Nat) : Int), ((2 ^ eT t 3 : Nat) : Int)]
    rw [← k0, ← k1, ← k2, ← k3]; rfl
  · have q0 := r 0
    have q1 := r 1
    have q2 := r 2
    have q3 := r 3
    rw [← k0] at q0
    rw [← k1] at q1
    rw [← k2] at q2
    rw [← k3] at q3
    exact ⟨⟨q0.1, q1.1, q2.1, q3.1⟩, q0.2, q1.2, q2.2, q3.2⟩
/-- what the lambda makes of a row -/
def growI (fs bs : List Int) (row : List Int) : List Int := row ++ stepI fs bs (row.getLastD 0)
theorem getLast_at {ns : List Int} (h : ns ≠ []) : ns.getD (-1 + (ns.length : Int)).toNat 0 = ns.getLastD 0 := by
  have hl : 0 < ns.length := List.length_pos_iff.mpr h
  have e : (-1 + (ns.length : Int)).toNat = ns.length - 1 := by omega
  rw [e, List.getLastD_eq_getLast?, List.getLast?_eq_getElem?, List.getD_eq_getElem?_getD]
end
section
variable {prog : Program} {w : World} {A : Around} {E : Value → Shared → Prop} {s : Shared} {h₀ h h' : Heap} {L : Addr} {m : Str → Option Value} {news : List (Addr × Obj)}
theorem k_last {value slice : Expr} {l : Addr} {vs : List Value} {c : Nat} {ns : List Int} {u : Tok} {Q : Value → Shared → Prop} (N : News h₀ L s.heap news) (hm : (l, listObj vs c) ∈ news) (hi : IntsAre vs ns) (hne : ns ≠ [])
    (h : ∀ t, Q (.int (ns.getLastD 0) t) s)
    (hs : subscripted slice false (.ref l) (.int (-1) u) = operate [.ref l, .int (-1) u] (getItem (.ref l) (.int (-1) u)) := by with_unfolding_all rfl) (hg : ∀ r, letTemporaryGo value (.ref l) r = pure () := by intro _; with_unfolding_all rfl) :
    wpAny (model prog w) A (subscriptTail value slice (.ref l) (.int (-1) u)) Q E s := by
  have hl : 0 < ns.length := List.length_pos_iff.mpr hne
  refine item_list_ints_neg (k := -1) ⟨_, (N _ hm).1, rfl, _, rfl⟩ hi (by decide) (by omega) (by decide) (fun t => ?_) hs hg
  rw [getLast_at hne]; exact h t
theorem k_cat {a b : Addr} {vs ws : List Value} {c d : Nat} {ns ms : List Int} {Q : Value → Shared → Prop} (F : Fr h₀ L s.heap m) (N : News h₀ L s.heap news) (ha : (a, listObj vs c) ∈ news) (hb : (b, listObj ws d) ∈ news) (hi : IntsAre vs ns) (hj : IntsAre ws ms)
    (hz : ns.length + ms.length ≤ sizeLine)
    (h : ∀ D us h', Fr h₀ L h' m → News h₀ L h' ((D, listObj us 0) :: news) → (∀ p ∈ news, p.1 < D) → IntsAre us (ns ++ ms) → Q (.ref D) { s with heap := h' }) :
    wpAny (model prog w) A (binaryOp .Add (.ref a) (.ref b)) Q E s :=
  kmk_add_ints F N ⟨_, (N _ ha).1, rfl, _, rfl⟩ ⟨_, (N _ hb).1, rfl, _, rfl⟩ hi hj h hz
theorem news_range {t u v : Tok} (F0 : Fr h₀ L h m) (N : News h₀ L h' news) (rg : IsRange h' h.objs.size 0 16 1 t u v) : News h₀ L h' ((h.objs.size, rgObj 16 t u v) :: news) := fun p hp => by
  rcases List.mem_cons.mp hp with rfl | hp
  · exact ⟨rg, Nat.ne_of_gt F0.ns.lt, Heap.get?_none_of_le (Nat.le_trans F0.above (Nat.le_of_lt F0.ns.lt))⟩
  · exact N p hp
theorem stepI_len (fs bs : List Int) (v : Int) : (stepI fs bs v).length ≤ 1 := by
  unfold stepI
  split <;> simp
end
end Mine
namespace Mine
open PySem PySem.W PyProof.Rows PySem.Spec PySem.Calls
set_option maxRecDepth 100000
set_option maxHeartbeats 8000000
theorem fill_frag : (PySem.Challenge.rw_il0043_01 = PySem.Challenge.rw_il0043_01) ∧ (hd.heap_39 = hd.heap_39) := by w_top off; k_fill; exact ⟨rfl, rfl⟩
local macro_rules | `(tactic| k_room) => `(tactic| ktr_room)
local macro_rules | `(tactic| k_enter) => `(tactic| ((fail_if_success k_inElt); first
  | (refine' code_def ?k1 ?k2 ?k3 ?k4 ?k5 ?kA ?kF ?kK ?k6 ?k7 ?k8 ?k9 ?kB ?_ ?c2 ?c3 ?c4 ?c5; (case kA => exact rfl); (case kF => exact rfl); (case kK => first | exact rfl | assumption); (case k1 => k_asm); (case k2 => k_asm); (case k3 => k_asm); (case k4 => k_asm); (case k5 => k_asm); (case k6 => k_is); (case k7 => k_is); (case k8 => k_room); (case k9 => first | exact BindsTo.of_eq rfl | exact binds_K (by k_in) rfl (by k_is) rfl rfl rfl | fail "k_enter: no rule for these arguments"); (case c5 => decide); (case kB => exact locs rfl); (case c2 => exact rfl); (case c3 => exact rfl); (case c4 => exact rfl); k_whole; intro g' L' h' FG' F' N' B' X' T'; (try dsimp only); (try k_lift B'); (try k_fold))
  | (refine' code_defC ?k1 ?k2 ?k3 ?k4 ?k5 ?kA ?kF ?kK ?k6 ?k7 ?k8 ?k9 ?kB ?kD ?_ ?c2 ?c3 ?c4; (case kA => exact rfl); (case kF => exact rfl); (case kK => first | exact rfl | assumption); (case k1 => k_asm); (case k2 => k_asm); (case k3 => k_asm); (case k4 => k_asm); (case k5 => k_asm); (case k6 => k_is); (case k7 => k_is); (case k8 => k_room); (case k9 => first | exact BindsTo.of_eq rfl | exact binds_K (by k_in) rfl (by k_is) rfl rfl rfl | fail "k_enter: no rule for these arguments"); (case kB => exact rfl); (case kD => decide +kernel); (case c2 => exact rfl); (case c3 => exact rfl); (case c4 => exact rfl); k_whole; intro g' L' h' tk' cells' FG' F' N' Y' B' X' T' l1; (try (replace l1 := allLt_of l1; simp only [AllLt, and_true] at l1)); k_cells Y'; (try simp only [List.cons_append, List.nil_append] at N'); (try dsimp only); (try k_lift B'); (try k_fold))))
local macro_rules | `(tactic| walk_at "getAttr ref") => `(tactic| (k_here; (with_reducible show wpAny _ _ (getAttr (Value.ref _) (PySem.Str.ofString "__contains__") _) _ _ _); k_dflt (refine' k_getattr_contains ?F ?N ?m ?_; (case F => k_asm); (case N => k_asm); (case m => k_mem); k_whole); intro q' h' tk' F' N' l1; (try k_lt l1); (try k_sweep)))
local macro_rules | `(tactic| walk_at "call builtin:iter") => `(tactic| (k_here; (with_reducible show wpAny _ _ (call (Value.builtin "iter") [Value.ref _]) _ _ _); k_dflt (refine' k_iter_list ?F ?N ?m ?_; (case F => k_asm); (case N => k_asm); (case m => k_mem); k_whole); intro q' h' F' N' l1; (try k_lt l1); (try k_sweep)))
local macro_rules | `(tactic| k_lt $h:ident) => `(tactic| ((have hW9 := LtW.of $h); (first | (rename LtT _ _ => hT; skip) | (have hT := $h; (repeat replace hT := lt_tail hT); replace hT := LtT.of hT)); replace $h := allLt_of $h; simp only [AllLt, and_true] at $h:ident))
local macro_rules | `(tactic| k_all) => `(tactic| ((rename LtT _ _ => hT); exact LtT.ne hT (by omega)))
local macro_rules | `(tactic| walk_at "exec While") => `(tactic| (k_here; refine Hold.mk ?_))
local macro_rules | `(tactic| walk_at "callWith ref") => `(tactic| (k_here; k_dflt (refine' callWith_mw ?N ?m ?_; (case N => k_asm); (case m => k_mem); k_whole)))
local macro_rules | `(tactic| walk_at "And") => `(tactic| ((with_reducible show MwAt _ _ _ ∧ _); refine ⟨MwAt.of (by k_asm) (by k_mem), ?_⟩; try dsimp only [List.nil_append, List.cons_append]))
local macro_rules | `(tactic| walk_at "call ref") => `(tactic| (k_here; (with_reducible show wpAny _ _ (call (Value.ref _) [Value.int _ _]) _ _ _); k_dflt (refine' call_mw ?N ?m ?l ?i ?_; (case N => k_asm); (case m => k_mem); (case l => k_mem); (case i => assumption); k_whole)))
local macro_rules | `(tactic| walk_at "call builtin:next") => `(tactic| (k_here; (with_reducible show wpAny _ _ (call (Value.builtin "next") [Value.ref _]) _ _ _); k_dflt (first
  | (refine' k_next_item ?F ?N ?U ?m ?x ?_; (case F => k_asm); (case N => k_asm); (case U => k_updF); (case m => k_mem); (case x => assumption); k_whole; intro h' F' N'; (try k_sweep))
  | (refine' k_next_stop ?hh ?F ?N ?m ?o ?x ?_; (case hh => exact rfl); (case F => k_asm); (case N => k_asm); (case m => k_mem); (case o => k_all); (case x => assumption); k_whole; intro h1' h' e' F' N' E'))))
local macro_rules | `(tactic| walk_at "MwAt") => `(tactic| exact MwAt.of (by k_asm) (by k_mem))
local macro_rules | `(tactic| walk_at "WhlRest") => `(tactic| refine Hold.mk ?_)
local macro_rules | `(tactic| walk_at "leaving ref") => `(tactic| (k_here; (refine' leave_newS ?k1 ?k0 ?k2 ?k3 ?_; (case k0 => assumption); (case k1 => assumption); (case k2 => assumption); (case k3 => k_asm); k_whole; intro h' RS' R' U'; (try dsimp only at RS' U' ⊢))))
local macro_rules | `(tactic| k_all) => `(tactic| ((rename OffT _ _ => hO); exact hO))
local macro_rules | `(tactic| cell_enter) => `(tactic| (refine' code_defT ?k1 ?k2 ?k3 ?k4 ?k5 ?xb ?tb ?dd ?t0 ?kA ?kF ?kK ?k6 ?k7 ?k8 ?k9 ?kB ?_ ?c2 ?c3 ?c4 ?c5; (case kA => exact rfl); (case kF => exact rfl); (case kK => first | exact rfl | assumption); (case k1 => k_asm); (case k2 => k_asm); (case k3 => k_asm); (case k4 => k_asm); (case k5 => k_asm); (case xb => assumption); (case tb => assumption); (case dd => assumption); (case t0 => first | assumption | exact KtsTurn.refl); (case k6 => k_is); (case k7 => k_is); (case k8 => k_room); (case k9 => first | exact BindsTo.of_eq rfl | exact binds_K (by k_in) rfl (by k_is) rfl rfl rfl | fail "k_enter: no rule for these arguments"); (case c5 => decide); (case kB => exact locs rfl); (case c2 => exact rfl); (case c3 => exact rfl); (case c4 => exact rfl); k_whole; intro g' L' h' FG' F' N' B' X' T' D' l1; (try (replace l1 := allLt_of l1; simp only [AllLt, and_true] at l1)); (try dsimp only); (try k_lift B'); (try k_fold)))
local macro_rules | `(tactic| ktr_enter) => `(tactic| (refine' code_defTC ?k1 ?k2 ?k3 ?k4 ?k5 ?xb ?tb ?dd ?t0 ?kA ?kF ?kK ?k6 ?k7 ?k8 ?k9 ?kB ?kD ?_ ?c2 ?c3 ?c4; (case kA => exact rfl); (case kF => exact rfl); (case kK => first | exact rfl | assumption); (case k1 => k_asm); (case k2 => k_asm); (case k3 => k_asm); (case k4 => k_asm); (case k5 => k_asm); (case xb => assumption); (case tb => assumption); (case dd => assumption); (case t0 => first | assumption | exact KtsTurn.refl); (case k6 => k_is); (case k7 => k_is); (case k8 => k_room); (case k9 => first | exact BindsTo.of_eq rfl | exact binds_K (by k_in) rfl (by k_is) rfl rfl rfl | fail "k_enter: no rule for these arguments"); (case kB => exact rfl); (case kD => decide +kernel); (case c2 => exact rfl); (case c3 => exact rfl); (case c4 => exact rfl); k_whole; intro g' L' h' tk' cells' FG' F' N' Y' B' X' T' D' l1; (try (replace l1 := allLt_of l1; simp only [AllLt, and_true] at l1)); k_cells Y'; (try simp only [List.cons_append, List.nil_append] at N'); (try dsimp only); (try k_lift B'); (try k_fold)))
local macro_rules | `(tactic| walk_at "LeaveT") => `(tactic| (k_dflt (refine' LeaveT.intro ?k1 ?k2 ?k3 ?_; (case k1 => k_asm); (case k2 => k_asm); (case k3 => first | exact KtsTurn.refl | assumption); k_whole); intro g' TT' F' N' B' X' T' D'; (try dsimp only)))
local macro_rules | `(tactic| walk_at "exec For Name Name cons nil") => `(tactic| (k_here; refine Hold.mk ?_))
local macro_rules | `(tactic| walk_at "call ref") => `(tactic| (k_here; (with_reducible show wpAny _ _ (call (Value.ref _) [Value.int _ _, Value.int _ _]) _ _ _); (rename FnInt _ _ _ _ _ _ _ _ _ _ _ _ _ => hFn); k_dflt (refine' hFn _ _ _ _ _ _ _ _ _ _ _ _ _ _ _ _ _ _ _ _ _ ?B ?F ?X ?N ?T ?K ?D ?O ?_; (case B => k_asm); (case F => k_asm); (case X => k_asm); (case N => k_asm); (case T => k_asm); (case K => first | exact rfl | assumption); (case D => ktr_room); (case O => ((rename SubL _ _ => hO); exact fun q hq => .tail _ (List.mem_append_left _ (hO q hq)))); k_whole); intro t' h' tk' F' N'; (try k_sweep)))
local macro_rules | `(tactic| walk_at "compareOp Is int ref") => `(tactic| (k_here; (with_reducible show wpAny _ _ (compareOp CmpOp.Is (Value.int _ _) (Value.ref _)) _ _ _); refine wpAny_is_other (by rfl) (by intro x; cases x) ?_))
local macro_rules | `(tactic| walk_at "callWith ref") => `(tactic| (k_here; k_dflt (refine' callWith_F ?k1 ?_; (case k1 => exact FnAt.of (by k_asm) (by k_mem)); k_whole)))
local macro_rules | `(tactic| walk_at "And") => `(tactic| ((with_reducible show FnAt _ _ ∧ _); refine ⟨FnAt.of (by k_asm) (by k_mem), ?_⟩; try dsimp only [List.nil_append, List.cons_append]))
local macro_rules | `(tactic| kla_enter) => `(tactic| (refine' kla_code ?k1 ?k2 ?k3 ?k4 ?k5 ?kA ?kF ?kK ?k6 ?k7 ?k8 ?k9 ?kB ?_ ?c2 ?c3 ?c4 ?c5; (case kA => exact rfl); (case kF => exact rfl); (case kK => first | exact rfl | assumption); (case k1 => k_asm); (case k2 => k_asm); (case k3 => k_asm); (case k4 => k_asm); (case k5 => k_asm); (case k6 => k_mem); (case k7 => exact codeRec_news (by k_asm) (by k_mem) (by assumption) (by assumption)); (case k8 => k_room); (case k9 => exact rfl); (case c5 => decide); (case kB => exact locs rfl); (case c2 => exact rfl); (case c3 => exact rfl); (case c4 => exact rfl); k_whole; intro g' L' h' FG' F' N' B' X' T'; (try dsimp only); (try k_lift B'); (try k_fold)))
local macro_rules | `(tactic| k_ne) => `(tactic| (refine neN ?_; (try dsimp only); first | omega | exact news_ne (by k_asm) (by k_mem) (by k_mem) (by nofun)))
theorem c_next {w : World} {loose : List Str} {mean : ExcName → Option Value} {mg mb : Str → Option Value}
  (dp un : Nat) (gd : Option (List Code)) (cn : Str) (cs : Scope) (a : Addr) (ccd : Value) (cl : List (Str × Addr)) (outer : List Env) (A₀ : Around) (base g₀ h₀ : Heap) (L : Addr) (m : Str → Option Value) (s : Shared) (Q E : Value → Shared → Prop)
  (news : List (Addr × Obj)) (x d mw it lf lk : Addr) (vf vk : List Value) (nf nk : Nat) (fs ks : List Int) (i : Nat)
  (B : Below A₀ base outer h₀) (F : Fr h₀ L s.heap m) (X : (hd.heap_39 w.params).In h₀) (N : News h₀ L s.heap ((it, liObj lf i) :: news)) (T : Top topProg loose mean mg mb h₀) (hk : cs.kind = .function)
  (XB : (hd.heap_39 w.params).In base) (TB : Top topProg loose mean mg mb base) (D : KtsDicts (outer.filterMap (·.frame)) h₀) (T0 : KtsTurn (outer.filterMap (·.frame)) g₀ h₀)
  (hoff : OffT news it)
  (hx : (x, ffObj d mw it) ∈ news) (hdd : (d, dictOf [] 0) ∈ news) (hmw : (mw, mwObj lk) ∈ news)
  (hlf : (lf, listObj vf nf) ∈ news) (hif : IntsAre vf fs)
  (hlk : (lk, listObj vk nk) ∈ news) (hik : IntsAre vk ks)
  (hdp : dp + 2 < recursionLimit) (hi0 : i ≤ fs.length)
  (hret : ∀ (j : Nat) (n : Int) (t : Tok) (h' : Heap) (tk' : Nat), i ≤ j → fs[j]? = some n → ks.contains n = false → (∀ l n', i ≤ l → l < j → fs[l]? = some n' → ks.contains n' = true) → Fr h₀ L h' m → News h₀ L h' ((it, liObj lf (j + 1)) :: news) → Q (.int n t) { s with heap := h', toks := tk' })
  (hstop : ∀ (e : Addr) (h₀' h' : Heap) (tk' : Nat), (∀ l n', i ≤ l → fs[l]? = some n' → ks.contains n' = true) → KtsTurn (outer.filterMap (·.frame)) g₀ h₀' → Fr h₀' L h' m → News h₀' L h' news → Below A₀ base outer h₀' → (hd.heap_39 w.params).In h₀' → Top topProg loose mean mg mb h₀' → KtsDicts (outer.filterMap (·.frame)) h₀' →
    (∃ ob, h'.get? e = some ob ∧ ob.cls = .type "StopIteration") → E (.ref e) { s with heap := h', toks := tk' }) :
  wpAny (model PySem.Challenge.rw_il0043_01.row.prog w) (ktrTop dp un gd cn cs L a ccd cl outer) (call (.ref 52) [.ref x]) Q E s := by
  have N2 : News h₀ L s.heap ((it, liObj lf i) :: (x, ffObj d mw it) :: (d, dictOf [] 0) :: (mw, mwObj lk) :: (lf, listObj vf nf) :: (lk, listObj vk nk) :: news) := fun p hp => by
    rcases List.mem_cons.mp hp with rfl | hp
    · exact N _ (List.mem_cons_self ..)
    refine N _ (List.mem_cons_of_mem _ ?_)
    rcases List.mem_cons.mp hp with rfl | hp
    · exact hx
    rcases List.mem_cons.mp hp with rfl | hp
    · exact hdd
    rcases List.mem_cons.mp hp with rfl | hp
    · exact hmw
    rcases List.mem_cons.mp hp with rfl | hp
    · exact hlf
    rcases List.mem_cons.mp hp with rfl | hp
    · exact hlk
    · exact hp
  have o1 := neN (hoff _ hx)
  have o2 := neN (hoff _ hdd)
  have o3 := neN (hoff _ hmw)
  have o4 := neN (hoff _ hlf)
  have o5 := neN (hoff _ hlk)
  dsimp only at o1 o2 o3 o4 o5
  replace N := N2
  clear N2
  w_top off
  refine wpAny_call ?_
  k_dflt k_enter
  k_steps
  unfold Hold
  refine whl_start 1 ?_
  rename Fr _ _ _ _ => F₁
  rename News _ _ _ _ => N₁
  refine whl_ind (i₀ := i) (PySem.Str.ofString "item") (fun i' => (it, liObj lf i') :: (x, ffObj d mw it) :: (d, dictOf [] 0) :: (mw, mwObj lk) :: (lf, listObj vf nf) :: (lk, listObj vk nk) :: news) fs.length
    (fun i' => i ≤ i' ∧ i' ≤ fs.length ∧ ∀ l n', i ≤ l → l < i' → fs[l]? = some n' → ks.contains n' = true) F₁ N₁ ⟨Nat.le_refl _, hi0, fun l n' h1 h2 => absurd h1 (by omega)⟩ ?_
  clear F₁ N₁ N
  rintro i' u h tk ⟨hi1, hi2, hpre⟩ F₁ N₁ ih
  dsimp only at N₁ ih
  by_cases hlt : i' < fs.length
  · obtain ⟨t, hx0⟩ := hif.get i' fs[i'] (by simp [hlt])
    refine whl_turn (by passes_own) ?_
    k_steps
    · unfold Hold
      rename News _ _ _ _ => N₂
      rename Fr _ _ _ _ => F₂
      rename ks.contains _ = true => hc
      refine ih _ _ _ hlt ⟨by omega, by omega, fun l n' h1 h2 h3 => ?_⟩ (fr_again F₂) N₂
      by_cases hl : l = i'
      · subst hl
        rw [List.getElem?_eq_getElem hlt] at h3
        cases h3
        exact hc
      · exact hpre l n' h1 (by omega) h3
    · rename News _ _ _ _ => N₂
      rename Fr _ _ _ _ => F₂
      refine hret i' fs[i'] t _ _ hi1 (by simp [hlt]) ?_ hpre F₂ (fun p hp => N₂ p ?_)
      · assumption
      · rcases List.mem_cons.mp hp with rfl | hp
        · exact List.mem_cons_self ..
        · simp only [List.mem_cons]
          exact .inr (.inr (.inr (.inr (.inr (.inr hp)))))
  · have hx0 : vf[i']? = none := by
      have := hif.length
      simp; omega
    refine whl_turn (by passes_own) ?_
    k_steps
    rename RaisedSN _ _ _ _ _ _ _ => RS
    rename Heap.UpToSlots _ _ => US
    rename Fr h₀ L _ m => FG
    obtain ⟨h₀', q1, q2, q3, q4, q5, q6, q7, q8⟩ := back_stop B FG XB TB D T0 rfl RS US
    exact hstop _ _ _ _ (fun l n' h1 h3 => hpre l n' h1 (by
      have := (List.getElem?_eq_some_iff.mp h3).1
      omega) h3) q1 q2 (fun p hp => q3 p (by simp only [List.mem_cons]; exact .inr (.inr (.inr (.inr (.inr hp)))))) q4 q5 q6 q7 q8
section
variable {w : World} {loose : List Str} {mean : ExcName → Option Value} {mg mb : Str → Option Value}
  {dp un : Nat} {gd : Option (List Code)} {cn : Str} {cs : Scope} {a : Addr} {ccd : Value} {cl : List (Str × Addr)} {outer : List Env} {A₀ : Around} {base g₀ h₀ : Heap} {L : Addr} {m : Str → Option Value} {s : Shared} {Q E : Value → Shared → Prop}
  {news : List (Addr × Obj)} {x d mw it lf lk S : Addr} {vf vk : List Value} {nf nk : Nat} {fs ks : List Int}
theorem mapSeq_push {acc : List Value} {c : Nat} (v : Value) : ∃ c', Obj.mapSeq (·.push v) (listObj acc c) = listObj (acc ++ [v]) c' := by
  refine ⟨if (acc.toArray.push v).size == acc.toArray.size then c else c + 1, ?_⟩
  show (⟨_, _, .seq (acc.toArray.push v) (if (acc.toArray.push v).size == acc.toArray.size then c else c + 1), _⟩ : Obj) = _
  rw [List.push_toArray]
theorem ff_loop {R : Result → Shared → Prop} (B : Below A₀ base outer h₀) (X : (hd.heap_39 w.params).In h₀) (T : Top topProg loose mean mg mb h₀) (hk : cs.kind = .function)
  (XB : (hd.heap_39 w.params).In base) (TB : Top topProg loose mean mg mb base) (D : KtsDicts (outer.filterMap (·.frame)) h₀) (T0 : KtsTurn (outer.filterMap (·.frame)) g₀ h₀)
  (hoff : OffT news it) (hS : OffT news S) (hSi : it ≠ S)
  (hx : (x, ffObj d mw it) ∈ news) (hdd : (d, dictOf [] 0) ∈ news) (hmw : (mw, mwObj lk) ∈ news) (hlf : (lf, listObj vf nf) ∈ news) (hif : IntsAre vf fs) (hlk : (lk, listObj vk nk) ∈ news) (hik : IntsAre vk ks)
  (hdp : dp + 2 < recursionLimit) (hfl : fs.length ≤ 1000)
  (hR : ∀ (h₀' h' : Heap) (tk' : Nat) (acc : List Value) (c : Nat), KtsTurn (outer.filterMap (·.frame)) g₀ h₀' → Fr h₀' L h' m → News h₀' L h' ((S, listObj acc c) :: news) → Below A₀ base outer h₀' → (hd.heap_39 w.params).In h₀' → Top topProg loose mean mg mb h₀' → KtsDicts (outer.filterMap (·.frame)) h₀' →
    IntsAre acc (fs.filter fun f => !ks.contains f) → R (.ok (.ret .none)) { s with heap := h', toks := tk' }) :
  ∀ (k i : Nat) (h : Heap) (tk : Nat) (acc : List Value) (c : Nat), fs.length - i = k → i ≤ fs.length → Fr h₀ L h m → News h₀ L h ((S, listObj acc c) :: (it, liObj lf i) :: news) → IntsAre acc ((fs.take i).filter fun f => !ks.contains f) →
    codeAny (model PySem.Challenge.rw_il0043_01.row.prog w) (ktrTop dp un gd cn cs L a ccd cl outer) (.builtin "list.extend.loop" ⟨[.ref S, .ref x, .none], []⟩) R { s with heap := h, toks := tk } := by
  intro k
  induction k using Nat.strongRecOn with
  | _ k ih =>
  intro i h tk acc c hki hi FF N hacc
  have hlen : acc.length ≤ 1000 := by
    have e1 := hacc.length
    have e2 := List.length_filter_le (fun f => !ks.contains f) (fs.take i)
    have e3 := List.length_take_le i fs
    have e4 : (fs.take i).length ≤ fs.length := by rw [List.length_take]; omega
    omega
  refine codeAny_builtin PySem.F.entry_extend_loop ?_
  rw [Around.under_plainId PySem.F.plain_extend_loop _]
  show wpAny _ _ (pyNext (.ref x) >>= _) _ _ _
  refine wpAny_bind ?_
  have N1 : News h₀ L h ((it, liObj lf i) :: (S, listObj acc c) :: news) := fun p hp => N p (by
    rcases List.mem_cons.mp hp with rfl | hp
    · exact .tail _ (.head _)
    rcases List.mem_cons.mp hp with rfl | hp
    · exact .head _
    · exact .tail _ (.tail _ hp))
  refine owit_next (x := x) (f := 52) FF X (InstAt.of_news N1 (.tail _ (.tail _ hx)) (.tail _ (.tail _ hdd))) (by k_is) (by k_is) ?_
  refine c_next dp (un + 1) gd cn cs a ccd cl outer A₀ base g₀ h₀ L m _ _ _ ((S, listObj acc c) :: news) x d mw it lf lk vf vk nf nk fs ks i B FF X N1 T hk XB TB D T0 ?_ (.tail _ hx) (.tail _ hdd) (.tail _ hmw) (.tail _ hlf) hif (.tail _ hlk) hik hdp hi ?_ ?_
  · intro p hp
    rcases List.mem_cons.mp hp with rfl | hp
    · exact fun e => hSi e.symm
    · exact hoff p hp
  · intro j n t h' tk' hj hjn hnk hpre F' N'
    have hjl := (List.getElem?_eq_some_iff.mp hjn).1
    have hSo := N' _ (.tail _ (.head _))
    obtain ⟨c', hc'⟩ := mapSeq_push (acc := acc) (c := c) (.int n t)
    show wpAny _ _ (updateSeq S (·.push (.int n t)) >>= _) _ _ _
    refine wpAny_bind (wpAny_updateSeq hSo.1 rfl (wpAny_pure ⟨plainId_quiet PySem.F.plain_extend_loop _, ?_⟩) ?_ ?_)
    · have hs : Heap.SameBut S h' (h'.update S (Obj.mapSeq (·.push (.int n t)))) := Heap.SameBut.update ..
      have hu : (h'.update S (Obj.mapSeq (·.push (.int n t)))).get? S = some (listObj (acc ++ [.int n t]) c') := by
        rw [Heap.get?_update_self _ hSo.1 rfl, hc']
      refine ih (fs.length - (j + 1)) (by omega) (j + 1) _ _ (acc ++ [.int n t]) c' rfl (by omega) (F'.change hs hSo.2.1 hSo.2.2) (fun p hp => ?_) ?_
      · rcases List.mem_cons.mp hp with rfl | hp
        · exact ⟨hu, hSo.2⟩
        rcases List.mem_cons.mp hp with rfl | hp
        · have n := N' _ (.head _)
          exact ⟨(hs.2 _ hSi).trans n.1, n.2⟩
        · have n := N' p (.tail _ (.tail _ hp))
          exact ⟨(hs.2 _ (hS p hp)).trans n.1, n.2⟩
      · have e : (fs.take (j + 1)).filter (fun f => !ks.contains f) = (fs.take i).filter (fun f => !ks.contains f) ++ [n] := by
          have e1 : fs.take (j + 1) = fs.take j ++ [n] := by rw [List.take_add_one, hjn]; rfl
          have e2 : fs.take j = fs.take i ++ (fs.drop i).take (j - i) := by
            rw [← List.take_append_drop i (fs.take j), List.take_take, Nat.min_eq_left hj, List.drop_take]
          have e3 : ((fs.drop i).take (j - i)).filter (fun f => !ks.contains f) = [] := by
            refine List.filter_eq_nil_iff.mpr fun b hb => ?_
            obtain ⟨q, hq⟩ := List.getElem?_of_mem hb
            rw [List.getElem?_take] at hq
            split at hq
            · rename_i hlt
              rw [List.getElem?_drop] at hq
              simpa using hpre (i + q) b (by omega) (by omega) hq
            · cases hq
          have e4 : [n].filter (fun f => !ks.contains f) = [n] := by
            rw [List.filter_cons, hnk]; rfl
          rw [e1, List.filter_append, e2, List.filter_append, e3, List.append_nil, e4]
        rw [e]
        exact hacc.append (.cons n t .nil)
    · have hz : sizeLine = 2 ^ 24 := by first | rfl | decide
      simp [hz]; omega
    · have hz : sizeLine = 2 ^ 24 := by first | rfl | decide
      simp [hz]; omega
  · intro e h₀' h' tk' hall TT F' N' B' X' T' D' hob
    obtain ⟨ob, ho, hoc⟩ := hob
    unfold OwitStop
    refine wpAny_isInstance (T := "StopIteration") (b := true) ⟨ob, ho, hoc⟩ owsi_facts.sub ?_
    show (if true = true then _ else _)
    rw [if_pos rfl]
    refine wpAny_pure (hR h₀' h' tk' acc c TT F' N' B' X' T' D' ?_)
    have e : fs.filter (fun f => !ks.contains f) = (fs.take i).filter (fun f => !ks.contains f) := by
      have e3 : (fs.drop i).filter (fun f => !ks.contains f) = [] := by
        refine List.filter_eq_nil_iff.mpr fun b hb => ?_
        obtain ⟨q, hq⟩ := List.getElem?_of_mem hb
        rw [List.getElem?_drop] at hq
        simpa using hall (i + q) b (by omega) hq
      conv => lhs; rw [← List.take_append_drop i fs]
      rw [List.filter_append, e3, List.append_nil]
    rw [e]
    exact hacc
end
theorem c_iter {w : World} {loose : List Str} {mean : ExcName → Option Value} {mg mb : Str → Option Value}
  (dp un : Nat) (gd : Option (List Code)) (cn : Str) (cs : Scope) (a : Addr) (ccd : Value) (cl : List (Str × Addr)) (outer : List Env) (A₀ : Around) (base h₀ : Heap) (L : Addr) (m : Str → Option Value) (s : Shared) (Q E : Value → Shared → Prop)
  (news : List (Addr × Obj)) (x : Addr)
  (B : Below A₀ base outer h₀) (F : Fr h₀ L s.heap m) (X : (hd.heap_39 w.params).In h₀) (N : News h₀ L s.heap news) (T : Top topProg loose mean mg mb h₀) (hk : cs.kind = .function) (hdp : dp + 2 < recursionLimit)
  (hret : ∀ (h' : Heap) (tk' : Nat), Fr h₀ L h' m → News h₀ L h' news → Q (.ref x) { s with heap := h', toks := tk' }) :
  wpAny (model PySem.Challenge.rw_il0043_01.row.prog w) (ktrTop dp un gd cn cs L a ccd cl outer) (call (.ref 45) [.ref x]) Q E s := by
  w_top off
  refine wpAny_call ?_
  k_dflt k_enter
  k_steps
  exact hret _ _ (by assumption) (by assumption)
theorem look_len {w : World} : findIn (hd.heap_39 w.params) (.ref 56) "__len__" = some none := by k_is
theorem look_hint {w : World} : findIn (hd.heap_39 w.params) (.ref 56) "__length_hint__" = some none := by k_is
theorem mapSeq_touch {c : Nat} : ∃ c', Obj.mapSeq (·.pop) (Obj.mapSeq (·.push Value.none) (Obj.mapSeq (fun _ => (#[] : Array Value)) { cls := .type "list", data := .seq #[] c })) = listObj [] c' := ⟨_, rfl⟩
section
variable {w : World} {loose : List Str} {mean : ExcName → Option Value} {mg mb : Str → Option Value}
  {dp un : Nat} {gd : Option (List Code)} {cn : Str} {cs : Scope} {a : Addr} {ccd : Value} {cl : List (Str × Addr)} {outer : List Env} {A₀ : Around} {base g₀ h₀ : Heap} {L : Addr} {m : Str → Option Value} {s : Shared} {Q E : Value → Shared → Prop}
  {news : List (Addr × Obj)} {x d mw it lf lk S : Addr} {vf vk : List Value} {nf nk : Nat} {fs ks : List Int}
/-- list(x) of the own iterator x -/
theorem k_list_ff (B : Below A₀ base outer h₀) (FF : Fr h₀ L s.heap m) (X : (hd.heap_39 w.params).In h₀) (N : News h₀ L s.heap ((it, liObj lf 0) :: news)) (T : Top topProg loose mean mg mb h₀) (hk : cs.kind = .function)
  (XB : (hd.heap_39 w.params).In base) (TB : Top topProg loose mean mg mb base) (D : KtsDicts (outer.filterMap (·.frame)) h₀) (T0 : KtsTurn (outer.filterMap (·.frame)) g₀ h₀)
  (hoff : OffT news it)
  (hx : (x, ffObj d mw it) ∈ news) (hdd : (d, dictOf [] 0) ∈ news) (hmw : (mw, mwObj lk) ∈ news) (hlf : (lf, listObj vf nf) ∈ news) (hif : IntsAre vf fs) (hlk : (lk, listObj vk nk) ∈ news) (hik : IntsAre vk ks)
  (hdp : dp + 2 < recursionLimit) (hfl : fs.length ≤ 1000)
  (hret : ∀ (S : Addr) (h₀' h' : Heap) (tk' : Nat) (acc : List Value) (c : Nat), KtsTurn (outer.filterMap (·.frame)) g₀ h₀' → Fr h₀' L h' m → News h₀' L h' ((S, listObj acc c) :: news) → Below A₀ base outer h₀' → (hd.heap_39 w.params).In h₀' → Top topProg loose mean mg mb h₀' → KtsDicts (outer.filterMap (·.frame)) h₀' →
    (∀ p ∈ news, p.1 < S) → IntsAre acc (fs.filter fun f => !ks.contains f) → Q (.ref S) { s with heap := h', toks := tk' }) :
  wpAny (model PySem.Challenge.rw_il0043_01.row.prog w) (ktrTop dp un gd cn cs L a ccd cl outer) (call (.type "list") [.ref x]) Q E s := by
  refine callType_codes (Q₁ := fun obj s₁ => obj = .ref s.heap.objs.size ∧ s₁ = { s with heap := s.heap.push { cls := .type "list", data := .seq #[] } }) PySem.F.called_list (PySem.F.typeCall_list_1 _) PySem.F.entry_list_init
    (code_list_new _ ⟨rfl, rfl⟩) fun obj s₁ h₁ => ?_
  obtain ⟨rfl, rfl⟩ := h₁
  have F1 := FF.push { cls := .type "list", data := .seq #[] }
  have N1 := N.push FF { cls := .type "list", data := .seq #[] }
  have hS := (N1 _ (.head _)).1
  have hlt : ∀ p ∈ ((it, liObj lf 0) :: news), p.1 < s.heap.objs.size := fun p hp => Heap.lt_size (N p hp).1
  have hxS : x ≠ s.heap.objs.size := Nat.ne_of_lt (hlt _ (.tail _ hx))
  refine ⟨⟨_, hS, rfl⟩, PySem.F.args_list_init_2 _ _, ?_⟩
  show wpAny _ _ (do let old ← Builtin.List.listItems (.ref s.heap.objs.size); Builtin.List.listUpdate (.ref s.heap.objs.size) (fun _ => #[]); letGo old.toList.reverse; Builtin.List.listExtendWith (.ref s.heap.objs.size) (.ref x) .none) _ _ _
  refine wpAny_bind ?_
  unfold Builtin.List.listItems
  refine wpAny_bind (wpAny_seqItems hS rfl (wpAny_pure ?_))
  show wpAny _ _ (updateSeq s.heap.objs.size (fun _ => #[]) >>= fun _ => letGo (#[] : Array Value).toList.reverse >>= fun _ => Builtin.List.listExtendWith (.ref s.heap.objs.size) (.ref x) .none) _ _ _
  refine wpAny_bind (wpAny_updateSeq hS rfl ?_)
  refine wpAny_bind (wpAny_letGo ?_)
  have hz : sizeLine = 2 ^ 24 := by first | rfl | decide
  have s2 : Heap.SameBut s.heap.objs.size (s.heap.push { cls := .type "list", data := .seq #[] }) ((s.heap.push { cls := .type "list", data := .seq #[] }).update s.heap.objs.size (Obj.mapSeq (fun _ => (#[] : Array Value)))) := Heap.SameBut.update ..
  have hS2 : ((s.heap.push { cls := .type "list", data := .seq #[] }).update s.heap.objs.size (Obj.mapSeq (fun _ => (#[] : Array Value)))).get? s.heap.objs.size = some (listObj [] 0) := Heap.get?_update_self (Obj.mapSeq (fun _ => (#[] : Array Value))) hS rfl
  generalize (s.heap.push { cls := .type "list", data := .seq #[] }).update s.heap.objs.size (Obj.mapSeq (fun _ => (#[] : Array Value))) = h2 at s2 hS2 ⊢
  have hS1 := (N1 _ (.head _)).2
  generalize s.heap.objs.size = S at *
  have F2 : Fr h₀ L h2 m := F1.change s2 hS1.1 hS1.2
  have N2 : News h₀ L h2 ((S, listObj [] 0) :: (it, liObj lf 0) :: news) := fun p hp => by
    rcases List.mem_cons.mp hp with rfl | hp
    · exact ⟨hS2, hS1⟩
    · have n := N1 p (.tail _ hp)
      exact ⟨(s2.2 _ (Nat.ne_of_lt (hlt p hp))).trans n.1, n.2⟩
  have I2 := fun (h : Heap) (N : News h₀ L h ((S, listObj [] 0) :: (it, liObj lf 0) :: news)) => InstAt.of_news N (.tail _ (.tail _ hx)) (.tail _ (.tail _ hdd))
  unfold Builtin.List.listExtendWith
  refine wpAny_bind ((I2 _ N2).type.here ?_)
  have h1 : Builtin.List.listSameRef (.ref S) (.ref x) = false := by simp [Builtin.List.listSameRef, Ne.symm hxS]
  have h2' : (Value.ref 56 == Value.type "list") = false := by decide
  have h3 : (Value.ref 56 == Value.type "tuple") = false := by decide
  simp only [h1, h2', h3, Bool.or_false, Bool.false_eq_true, if_false]
  refine wpAny_bind (owit_iter (f := 45) F2 X (I2 _ N2) (by k_is) (by k_is) ?_)
  refine c_iter dp (un + 2) gd cn cs a ccd cl outer A₀ base h₀ L m _ _ _ _ x B F2 X N2 T hk hdp fun h' tk' F3 N3 => ?_
  refine owit_it (g := .ref 52) F3 X (I2 _ N3) (by k_is) ?_
  refine wpAny_bind (wpAny_holding ?_)
  unfold Builtin.List.listLengthHint
  have X3 := X.keeps F3.keep
  refine wpAny_bind (m := specialOf (.ref x) "__len__") ?_
  unfold specialOf
  refine wpAny_bind ((I2 _ N3).type.here ((looks_findIn X3 look_len).here ?_))
  show wpAny _ _ (specialOf (Value.ref x) (Str.ofString "__length_hint__") >>= _) _ _ _
  refine wpAny_bind (m := specialOf (.ref x) (Str.ofString "__length_hint__")) ?_
  unfold specialOf
  refine wpAny_bind ((I2 _ N3).type.here ((looks_findIn X3 look_hint).here ?_))
  refine wpAny_pure ?_
  show wpAny _ _ (rule "list.extend.makes-room" >>= fun _ => Builtin.List.listTouch (.ref S) >>= fun _ =>
    again (.builtin "list.extend.loop" ⟨[.ref S, .ref x, .none], []⟩)) _ _ _
  refine wpAny_bind (wpAny_rule ?_)
  refine wpAny_bind ?_
  show wpAny _ _ (updateSeq S (·.push .none) >>= fun _ => updateSeq S (·.pop)) _ _ _
  have S3 := (N3 _ (.head _)).1
  refine wpAny_bind (wpAny_updateSeq S3 rfl ?_)
  have S4 := Heap.get?_update_self (Obj.mapSeq (·.push Value.none)) S3 rfl
  refine wpAny_updateSeq (hz := by seq_fits) S4 rfl ?_
  have S5 := Heap.get?_update_self (Obj.mapSeq (·.pop)) S4 rfl
  have q4 : Heap.SameBut S h' ((h'.update S (Obj.mapSeq (·.push Value.none))).update S (Obj.mapSeq (·.pop))) := (Heap.SameBut.update ..).trans (Heap.SameBut.update ..)
  generalize (h'.update S (Obj.mapSeq (·.push Value.none))).update S (Obj.mapSeq (·.pop)) = h5 at q4 S5 ⊢
  obtain ⟨c5, hc5⟩ : ∃ c', Obj.mapSeq (·.pop) (Obj.mapSeq (·.push Value.none) (listObj [] 0)) = listObj [] c' := ⟨_, rfl⟩
  rw [hc5] at S5
  have n3 := (N3 _ (.head _)).2
  refine wpAny_pure ⟨plainId_quiet PySem.F.plain_extend_loop _, ?_⟩
  refine ff_loop (s := s) (dp := dp) (un := un + 1) (gd := gd) (cn := cn) (cs := cs) (a := a) (ccd := ccd) (cl := cl) (S := S) B X T hk XB TB D T0 hoff (fun p hp => Nat.ne_of_lt (hlt _ (.tail _ hp))) (Nat.ne_of_lt (hlt _ (.head _))) hx hdd hmw hlf hif hlk hik hdp hfl
    (fun h₀' h' tk' acc c q1 q2 q3 q4 q5 q6 q7 q8 => ⟨rfl, hret S h₀' h' tk' acc c q1 q2 q3 q4 q5 q6 q7 (fun p hp => hlt _ (.tail _ hp)) q8⟩) fs.length 0 h5 _ [] c5 rfl (Nat.zero_le _) (F3.change q4 n3.1 n3.2) (fun p hp => ?_) .nil
  rcases List.mem_cons.mp hp with rfl | hp
  · exact ⟨S5, n3⟩
  · have n := N3 p (.tail _ hp)
    exact ⟨(q4.2 _ (Nat.ne_of_lt (hlt p hp))).trans n.1, n.2⟩
end
theorem c_filter {w : World} {loose : List Str} {mean : ExcName → Option Value} {mg mb : Str → Option Value}
  (dp un : Nat) (gd : Option (List Code)) (cn : Str) (cs : Scope) (a : Addr) (ccd : Value) (cl : List (Str × Addr)) (outer : List Env) (A₀ : Around) (base g₀ h₀ : Heap) (L : Addr) (m : Str → Option Value) (s : Shared) (Q E : Value → Shared → Prop)
  (news : List (Addr × Obj)) (lf lk : Addr) (vf vk : List Value) (nf nk : Nat) (fs ks : List Int)
  (B : Below A₀ base outer h₀) (F : Fr h₀ L s.heap m) (X : (hd.heap_39 w.params).In h₀) (N : News h₀ L s.heap news) (T : Top topProg loose mean mg mb h₀) (hk : cs.kind = .function)
  (XB : (hd.heap_39 w.params).In base) (TB : Top topProg loose mean mg mb base) (D : KtsDicts (outer.filterMap (·.frame)) h₀) (T0 : KtsTurn (outer.filterMap (·.frame)) g₀ h₀)
  (hlf : (lf, listObj vf nf) ∈ news) (hif : IntsAre vf fs) (hlk : (lk, listObj vk nk) ∈ news) (hik : IntsAre vk ks)
  (hdp : dp + 4 < recursionLimit) (hfl : fs.length ≤ 1000)
  (hret : ∀ (S : Addr) (h₀' h' : Heap) (tk' : Nat) (acc : List Value) (c : Nat), KtsTurn (outer.filterMap (·.frame)) g₀ h₀' → Fr h₀' L h' m → News h₀' L h' ((S, listObj acc c) :: news) → Below A₀ base outer h₀' → (hd.heap_39 w.params).In h₀' → Top topProg loose mean mg mb h₀' → KtsDicts (outer.filterMap (·.frame)) h₀' →
    (∀ p ∈ news, p.1 < S) → IntsAre acc (fs.filter fun f => !ks.contains f) → Q (.ref S) { s with heap := h', toks := tk' }) :
  wpAny (model PySem.Challenge.rw_il0043_01.row.prog w) (ktrTop dp un gd cn cs L a ccd cl outer) (call (.ref 67) [.ref lf, .ref lk]) Q E s := by
  have N2 : News h₀ L s.heap ((lf, listObj vf nf) :: (lk, listObj vk nk) :: news) := fun p hp => by
    rcases List.mem_cons.mp hp with rfl | hp
    · exact N _ hlf
    rcases List.mem_cons.mp hp with rfl | hp
    · exact N _ hlk
    · exact N _ hp
  replace N := N2
  clear N2
  w_top off
  refine wpAny_call ?_
  k_dflt cell_enter
  k_steps
  rename Top _ _ _ _ _ _ => T₁
  refine k_list_ff (by assumption) (by assumption) (by assumption) (by assumption) T₁ rfl XB TB (by assumption) KtsTurn.refl ?hoff (.head _) (.tail _ (.head _)) (.tail _ (.tail _ (.head _))) (.tail _ (.tail _ (.tail _ (.head _)))) hif (.tail _ (.tail _ (.tail _ (.tail _ (.head _))))) hik (by ktr_room) hfl ?_
  case hoff =>
    rename LtT _ _ => hT
    intro p hp
    rcases List.mem_cons.mp hp with rfl | hp
    · refine neN ?_; dsimp only; omega
    rcases List.mem_cons.mp hp with rfl | hp
    · refine neN ?_; dsimp only; omega
    rcases List.mem_cons.mp hp with rfl | hp
    · refine neN ?_; dsimp only; omega
    rcases List.mem_cons.mp hp with rfl | hp
    · refine neN ?_; dsimp only; omega
    rcases List.mem_cons.mp hp with rfl | hp
    · refine neN ?_; dsimp only; omega
    · exact hT.ne (by omega) p hp
  intro S h₀' h' tk' acc c TT F' N' B' X' T' D' hlt hacc
  refine LeaveT.intro F' N' TT ?_
  intro h₀'' TT2 F2 N2 B2 X2 T2 D2
  refine hret S h₀'' h' tk' acc c TT2 F2 (fun p hp => N2 p ?_) B2 X2 T2 D2 (fun p hp => hlt p ?_) hacc
  · rcases List.mem_cons.mp hp with rfl | hp
    · exact .head _
    · exact .tail _ (.tail _ (.tail _ (.tail _ (.tail _ (.tail _ hp)))))
  · exact .tail _ (.tail _ (.tail _ (.tail _ (.tail _ hp))))
theorem c_reduce1 {w : World} {loose : List Str} {mean : ExcName → Option Value} {mg mb : Str → Option Value}
  (dp un : Nat) (gd : Option (List Code)) (cn : Str) (cs : Scope) (a : Addr) (ccd : Value) (cl : List (Str × Addr)) (outer : List Env) (A₀ : Around) (base h₀ : Heap) (L : Addr) (m : Str → Option Value) (s : Shared) (Q E : Value → Shared → Prop)
  (news : List (Addr × Obj)) (S : Addr) (vs : List Value) (c : Nat) (ns : List Int) (f : Addr) (oc : Value) (od : Option Addr) (fd : FuncData) (sl : Array (Option Value)) (d0 : Nat) (G : Int → Int → Int) (z : Int) (tz : Tok) (own : List (Addr × Obj))
  (B : Below A₀ base outer h₀) (F : Fr h₀ L s.heap m) (X : (hd.heap_39 w.params).In h₀) (N : News h₀ L s.heap ((S, listObj vs c) :: news)) (T : Top topProg loose mean mg mb h₀) (hk : cs.kind = .function)
  (hS : LtW news S) (hi : IntsAre vs ns)
  (hf : (f, (⟨oc, od, .func fd, sl⟩ : Obj)) ∈ news)
  (hfn : FnInt PySem.Challenge.rw_il0043_01.row.prog w (hd.heap_39 w.params) topProg loose mean mg mb base f own d0 G) (hown : SubL own news)
  (hdp : dp + 1 + d0 < recursionLimit)
  (hret : ∀ (t : Tok) (h' : Heap) (tk' : Nat), Fr h₀ L h' m → News h₀ L h' news → Q (.int (ns.foldl G z) t) { s with heap := h', toks := tk' }) :
  wpAny (model PySem.Challenge.rw_il0043_01.row.prog w) (ktrTop dp un gd cn cs L a ccd cl outer) (call (.ref 23) [.ref f, .ref S, .int z tz]) Q E s := by
  have hfS := ltN (hS _ hf)
  dsimp only at hfS
  have hoS : OffT news S := fun p hp => Nat.ne_of_lt (hS p hp)
  have N2 : News h₀ L s.heap ((S, listObj vs c) :: (f, (⟨oc, od, .func fd, sl⟩ : Obj)) :: news) := fun p hp => by
    rcases List.mem_cons.mp hp with rfl | hp
    · exact N _ (.head _)
    rcases List.mem_cons.mp hp with rfl | hp
    · exact N _ (.tail _ hf)
    · exact N _ (.tail _ hp)
  replace N := N2
  clear N2
  w_top off
  refine wpAny_call ?_
  k_dflt k_enter
  k_steps
  unfold Hold
  rename Fr _ _ _ _ => F₁
  rename News _ _ _ _ => N₁
  rename LtT _ _ => hT
  refine for_listiter (y := PySem.Str.ofString "value") G rfl F₁ N₁ ?hI ?hSS (Nat.ne_of_lt (by omega)) hi rfl (fun Q' hq => ?hev) rfl rfl ?turn ?done (by passes_own)
  case hI =>
    intro p hp
    rcases List.mem_cons.mp hp with rfl | hp
    · refine neN ?_; dsimp only; omega
    · exact hT.ne (by omega) p hp
  case hSS =>
    intro p hp
    rcases List.mem_cons.mp hp with rfl | hp
    · refine neN ?_; dsimp only; omega
    · exact hoS p hp
  case hev => k_steps; exact hq
  case turn =>
    intro k t a ta h tk own hk' hown F₂ N₂
    clear F₁ N₁
    simp only [List.cons_append] at N₂
    k_steps
    rename Fr _ _ _ _ => F₃
    rename News _ _ _ _ => N₃
    refine InvEndN.intro (nx := (f, (⟨oc, od, .func fd, sl⟩ : Obj)) :: news) F₃ N₃ ⟨rfl, ⟨_, by with_unfolding_all rfl⟩, fun z h1 h2 => by simp only [if_neg h1, if_neg h2]⟩ rfl (fun p hp => ?_) (fun p hp => .tail _ (List.mem_append_right _ hp))
    rcases List.mem_cons.mp hp with rfl | hp
    · exact .head _
    · exact .tail _ (List.mem_append_left _ hp)
  case done =>
    intro u t h tk F₂ N₂
    clear F₁ N₁
    dsimp only
    k_steps
    rename News h₀ L _ _ => kN
    exact hret _ _ _ (by assumption) (fun p hp => kN p (.tail _ hp))
local macro_rules | `(tactic| walk_at "call ref") => `(tactic| (k_here; (with_reducible show wpAny _ _ (call (Value.ref 67) [Value.ref _, Value.ref _]) _ _ _); k_dflt (refine' c_filter _ _ _ _ _ _ _ _ _ _ _ _ _ _ _ _ _ _ _ _ _ _ _ _ _ _ _ ?B ?F ?X ?N ?T ?K ?XB ?TB ?D ?T0 ?lf ?iff ?lk ?ik ?dp ?fl ?_; (case B => k_asm); (case F => k_asm); (case X => k_asm); (case N => k_asm); (case T => k_asm); (case K => first | exact rfl | assumption); (case XB => assumption); (case TB => assumption); (case D => assumption); (case T0 => first | assumption | exact KtsTurn.refl); (case lf => k_mem); (case iff => assumption); (case lk => k_mem); (case ik => assumption); (case dp => ktr_room); (case fl => omega); k_whole); intro S' g' h' tk' acc' c' TT' F' N' B' X' T' D' l1 hacc'; have hW' := LtW.of l1; (k_lt l1); (try k_sweep)))
local macro_rules | `(tactic| walk_at "call ref") => `(tactic| (k_here; (with_reducible show wpAny _ _ (call (Value.ref 23) _) _ _ _); refine Hold.mk ?_))
theorem c_full_hit {w : World} {loose : List Str} {mean : ExcName → Option Value} {mg mb : Str → Option Value}
  (dp un : Nat) (gd : Option (List Code)) (cn : Str) (cs : Scope) (a : Addr) (ccd : Value) (cl : List (Str × Addr)) (outer : List Env) (A₀ : Around) (base g₀ h₀ : Heap) (L : Addr) (m : Str → Option Value) (s : Shared) (Q E : Value → Shared → Prop)
  (news : List (Addr × Obj)) (c' : Addr) (oc : Obj) (vs : Array Value) (tq : Tok) (lf lb : Addr) (vf vb : List Value) (nf nb : Nat) (fs bs : List Int) (wish : Int) (tw : Tok)
  (B : Below A₀ base outer h₀) (F : Fr h₀ L s.heap m) (X : (hd.heap_39 w.params).In h₀) (N : News h₀ L s.heap news) (T : Top topProg loose mean mg mb h₀) (hk : cs.kind = .function)
  (XB : (hd.heap_39 w.params).In base) (TB : Top topProg loose mean mg mb base) (D : KtsDicts (outer.filterMap (·.frame)) h₀) (T0 : KtsTurn (outer.filterMap (·.frame)) g₀ h₀)
  (hC : CodeHd base 78 76)
  (hP : (76, tab44 c') ∈ news) (hc' : (c', oc) ∈ news) (hoc : oc.data = .fields vs) (hvs : vs[1]? = some (.str "_law_full.<locals>.<lambda>" tq))
  (hlf : (lf, listObj vf nf) ∈ news) (hif : IntsAre vf fs) (hlenf : fs.length ≤ 4)
  (hlb : (lb, listObj vb nb) ∈ news) (hib : IntsAre vb bs) (hlenb : bs.length ≤ 4)
  (hdp : dp + 8 < recursionLimit)
  (hret : ∀ (t : Tok) (h₀' h' : Heap) (tk' : Nat), KtsTurn (outer.filterMap (·.frame)) g₀ h₀' → Fr h₀' L h' m → News h₀' L h' news → Below A₀ base outer h₀' → (hd.heap_39 w.params).In h₀' → Top topProg loose mean mg mb h₀' → KtsDicts (outer.filterMap (·.frame)) h₀' →
    Q (.int (fullI fs bs wish) t) { s with heap := h', toks := tk' }) :
  wpAny (model PySem.Challenge.rw_il0043_01.row.prog w) (ktrTop dp un gd cn cs L a ccd cl outer) (call (.ref 79) [.ref lf, .ref lb, .int wish tw]) Q E s := by
  have N2 : News h₀ L s.heap ((76, tab44 c') :: (c', oc) :: (lf, listObj vf nf) :: (lb, listObj vb nb) :: news) := fun p hp => by
    rcases List.mem_cons.mp hp with rfl | hp
    · exact N _ hP
    rcases List.mem_cons.mp hp with rfl | hp
    · exact N _ hc'
    rcases List.mem_cons.mp hp with rfl | hp
    · exact N _ hlf
    rcases List.mem_cons.mp hp with rfl | hp
    · exact N _ hlb
    · exact N _ hp
  replace N := N2
  clear N2
  w_top off
  refine wpAny_call ?_
  k_dflt ktr_enter
  k_steps
  show Hold _
  unfold Hold
  rename LtW _ _ => hW
  rename IntsAre _ (List.filter _ _) => hacc
  refine' c_reduce1 _ _ _ _ _ _ _ _ _ _ _ _ _ _ _ _ _ _ _ _ _ _ _ _ _ _ _ 1 (fun a b => Builtin.bitAnd a (Builtin.bitAnd b 4095)) _ _ _ ?B ?F ?X ?N ?T ?K ?S ?i ?f ?fn ?own ?dp ?ret
  case B => k_asm
  case F => k_asm
  case X => k_asm
  case N => k_asm
  case T => k_asm
  case K => exact rfl
  case S => exact hW
  case i => exact hacc
  case f => k_mem
  case own => exact SubL.refl _
  case dp => ktr_room
  case fn =>
    intro dp un gd cn cs a ccd cl outer A₀ h₀ L m s Q E news' x y tx ty B F X N T hk hd hsub hret9
    have N2 := news_both (fun p hp => N p (hsub p hp)) N
    simp only [List.cons_append] at N2
    refine wpAny_call ?_
    k_dflt kla_enter
    k_steps
    rename News h₀ L _ _ => kN
    exact hret9 _ _ _ (by assumption) (fun p hp => kN p (by simp only [List.mem_cons, List.mem_append]; simp only [hp, or_true]))
  case ret =>
    intro t h' tk' F' N'
    k_steps
    rename News _ L _ _ => kN
    simp only [List.map_id']
    exact hret _ _ _ _ (by assumption) (by assumption) (fun p hp => kN p (by simp only [List.mem_cons]; simp only [hp, or_true])) (by assumption) (by assumption) (by assumption) (by assumption)
  all_goals exact default
theorem c_full_first {w : World} {loose : List Str} {mean : ExcName → Option Value} {mg mb : Str → Option Value}
  (dp un : Nat) (gd : Option (List Code)) (cn : Str) (cs : Scope) (a : Addr) (ccd : Value) (cl : List (Str × Addr)) (outer : List Env) (A₀ : Around) (base g₀ h₀ : Heap) (L : Addr) (m : Str → Option Value) (s : Shared) (Q E : Value → Shared → Prop)
  (news : List (Addr × Obj)) (lf lb : Addr) (vf vb : List Value) (nf nb : Nat) (fs bs : List Int) (wish : Int) (tw : Tok)
  (B : Below A₀ base outer h₀) (F : Fr h₀ L s.heap m) (X : (hd.heap_39 w.params).In h₀) (N : News h₀ L s.heap ((76, tabObj #[]) :: news)) (T : Top topProg loose mean mg mb h₀) (hk : cs.kind = .function)
  (XB : (hd.heap_39 w.params).In base) (TB : Top topProg loose mean mg mb base) (D : KtsDicts (outer.filterMap (·.frame)) h₀) (T0 : KtsTurn (outer.filterMap (·.frame)) g₀ h₀)
  (hC : CodeHd base 78 76)
  (hoff : OffT news 76)
  (hlf : (lf, listObj vf nf) ∈ news) (hif : IntsAre vf fs) (hlenf : fs.length ≤ 4)
  (hlb : (lb, listObj vb nb) ∈ news) (hib : IntsAre vb bs) (hlenb : bs.length ≤ 4)
  (hdp : dp + 8 < recursionLimit)
  (hret : ∀ (t : Tok) (h₀' h' : Heap) (tk' : Nat) (c' : Addr) (oc : Obj) (vs : Array Value) (tq : Tok), oc.data = .fields vs → vs[1]? = some (.str "_law_full.<locals>.<lambda>" tq) → (∀ p ∈ news, p.1 < c') → KtsTurn (outer.filterMap (·.frame)) g₀ h₀' → Fr h₀' L h' m → News h₀' L h' ((c', oc) :: (76, tab44 c') :: news) → Below A₀ base outer h₀' → (hd.heap_39 w.params).In h₀' → Top topProg loose mean mg mb h₀' → KtsDicts (outer.filterMap (·.frame)) h₀' →
    Q (.int (fullI fs bs wish) t) { s with heap := h', toks := tk' }) :
  wpAny (model PySem.Challenge.rw_il0043_01.row.prog w) (ktrTop dp un gd cn cs L a ccd cl outer) (call (.ref 79) [.ref lf, .ref lb, .int wish tw]) Q E s := by
  have N2 : News h₀ L s.heap ((76, tabObj #[]) :: (lf, listObj vf nf) :: (lb, listObj vb nb) :: news) := fun p hp => by
    rcases List.mem_cons.mp hp with rfl | hp
    · exact N _ (.head _)
    refine N _ (.tail _ ?_)
    rcases List.mem_cons.mp hp with rfl | hp
    · exact hlf
    rcases List.mem_cons.mp hp with rfl | hp
    · exact hlb
    · exact hp
  have o1 := neN (hoff _ hlf)
  have o2 := neN (hoff _ hlb)
  dsimp only at o1 o2
  replace N := N2
  clear N2
  w_top off
  refine wpAny_call ?_
  k_dflt ktr_enter
  k_steps
  show Hold _
  unfold Hold
  rename LtW _ _ => hW
  rename IntsAre _ (List.filter _ _) => hacc
  refine' c_reduce1 _ _ _ _ _ _ _ _ _ _ _ _ _ _ _ _ _ _ _ _ _ _ _ _ _ _ _ 1 (fun a b => Builtin.bitAnd a (Builtin.bitAnd b 4095)) _ _ _ ?B ?F ?X ?N ?T ?K ?S ?i ?f ?fn ?own ?dp ?ret
  case B => k_asm
  case F => k_asm
  case X => k_asm
  case N => k_asm
  case T => k_asm
  case K => exact rfl
  case S => exact hW
  case i => exact hacc
  case f => k_mem
  case own => exact SubL.refl _
  case dp => ktr_room
  case fn =>
    intro dp un gd cn cs a ccd cl outer A₀ h₀ L m s Q E news' x y tx ty B F X N T hk hd hsub hret9
    have N2 := news_both (fun p hp => N p (hsub p hp)) N
    simp only [List.cons_append] at N2
    refine wpAny_call ?_
    k_dflt kla_enter
    k_steps
    rename News h₀ L _ _ => kN
    exact hret9 _ _ _ (by assumption) (fun p hp => kN p (by simp only [List.mem_cons, List.mem_append]; simp only [hp, or_true]))
  case ret =>
    intro t h' tk' F' N'
    k_steps
    rename News _ L _ _ => kN
    simp only [List.map_id']
    have kN2 := news_pick kN
    refine' hret _ _ _ _ _ _ _ _ ?h1 ?h2 ?h3 (by assumption) (by assumption) kN2 (by assumption) (by assumption) (by assumption) (by assumption)
    case h1 => assumption
    case h2 => assumption
    case h3 => first | (rename LtT _ _ => hz; exact hz.all) | assumption | exact LtW.sub (by assumption) (fun p hp => .tail _ (.tail _ (.tail _ (.tail _ (.tail _ hp)))))
  all_goals exact default
local macro_rules | `(tactic| walk_at "call ref") => `(tactic| (k_here; (with_reducible show wpAny _ _ (call (Value.ref 79) [Value.ref _, Value.ref _, Value.int _ _]) _ _ _); k_dflt (refine' c_full_hit _ _ _ _ _ _ _ _ _ _ _ _ _ _ _ _ _ _ _ _ _ _ _ _ _ _ _ _ _ _ _ _ _ ?B ?F ?X ?N ?T ?K ?XB ?TB ?D ?T0 ?C ?hP ?hc ?oc ?vs ?lf ?iff ?lenf ?lb ?ib ?lenb ?dp ?_; (case B => k_asm); (case F => k_asm); (case X => k_asm); (case N => k_asm); (case T => k_asm); (case K => first | exact rfl | assumption); (case XB => assumption); (case TB => assumption); (case D => assumption); (case T0 => first | assumption | exact KtsTurn.refl); (case C => assumption); (case hP => k_mem); (case hc => k_mem); (case oc => assumption); (case vs => assumption); (case lf => k_mem); (case iff => assumption); (case lenf => assumption); (case lb => k_mem); (case ib => assumption); (case lenb => assumption); (case dp => ktr_room); k_whole); intro t' g' h' tk' TT' F' N' B' X' T' D'; (try k_sweep)))
local macro_rules | `(tactic| walk_at "exec For Name Tuple cons nil") => `(tactic| (k_here; refine Hold.mk ?_))
local macro_rules | `(tactic| walk_at "OwitRest") => `(tactic| refine Hold.mk ?_)
local macro_rules | `(tactic| walk_at "OwitFlow") => `(tactic| refine Hold.mk ?_)
section
local macro_rules | `(tactic| walk_at "call builtin:sum") => `(tactic| (k_here; (with_reducible show wpAny _ _ (call (Value.builtin "sum") [Value.ref _]) _ _ _); k_dflt (refine' sum_pick ?k0 ?k1 ?k2 ?k3 ?k4 ?_; (case k0 => exact rfl); (case k1 => k_asm); (case k2 => k_asm); (case k3 => k_mem); (case k4 => assumption); k_whole); intro h' tk' t' F' N'; (try dsimp only)))
theorem c_step {w : World} {loose : List Str} {mean : ExcName → Option Value} {mg mb : Str → Option Value}
  (dp un : Nat) (gd : Option (List Code)) (cn : Str) (cs : Scope) (a : Addr) (ccd : Value) (cl : List (Str × Addr)) (outer : List Env) (A₀ : Around) (base g₀ h₀ : Heap) (L : Addr) (m : Str → Option Value) (s : Shared) (Q E : Value → Shared → Prop)
  (news : List (Addr × Obj)) (c' : Addr) (oc : Obj) (vs : Array Value) (tq : Tok) (lf lb : Addr) (vf : List Value) (nf nb : Nat) (fs : List Int) (b0 b1 b2 b3 : Int) (t0 t1 t2 t3 : Tok) (last : Int) (tw : Tok)
  (B : Below A₀ base outer h₀) (F : Fr h₀ L s.heap m) (X : (hd.heap_39 w.params).In h₀) (N : News h₀ L s.heap news) (T : Top topProg loose mean mg mb h₀) (hk : cs.kind = .function)
  (XB : (hd.heap_39 w.params).In base) (TB : Top topProg loose mean mg mb base) (D : KtsDicts (outer.filterMap (·.frame)) h₀) (T0 : KtsTurn (outer.filterMap (·.frame)) g₀ h₀)
  (hC : CodeHd base 78 76)
  (hP : (76, tab44 c') ∈ news) (hc' : (c', oc) ∈ news) (hoc : oc.data = .fields vs) (hvs : vs[1]? = some (.str "_law_full.<locals>.<lambda>" tq))
  (hlf : (lf, listObj vf nf) ∈ news) (hif : IntsAre vf fs) (hlenf : fs.length ≤ 4)
  (hlb : (lb, listObj [.int b0 t0, .int b1 t1, .int b2 t2, .int b3 t3] nb) ∈ news) (hib : IntsAre [.int b0 t0, .int b1 t1, .int b2 t2, .int b3 t3] [b0, b1, b2, b3]) (hlenb : [b0, b1, b2, b3].length ≤ 4)
  (hdp : dp + 10 < recursionLimit)
  (hret : ∀ (S : Addr) (acc : List Value) (c : Nat) (h₀' h' : Heap) (tk' : Nat), KtsTurn (outer.filterMap (·.frame)) g₀ h₀' → Fr h₀' L h' m → News h₀' L h' ((S, listObj acc c) :: news) → (∀ p ∈ news, p.1 < S) → Below A₀ base outer h₀' → (hd.heap_39 w.params).In h₀' → Top topProg loose mean mg mb h₀' → KtsDicts (outer.filterMap (·.frame)) h₀' →
    IntsAre acc (stepI fs [b0, b1, b2, b3] last) → Q (.ref S) { s with heap := h', toks := tk' }) :
  wpAny (model PySem.Challenge.rw_il0043_01.row.prog w) (ktrTop dp un gd cn cs L a ccd cl outer) (call (.ref 86) [.ref lf, .ref lb, .int last tw]) Q E s := by
  have N2 : News h₀ L s.heap ((76, tab44 c') :: (c', oc) :: (lf, listObj vf nf) :: (lb, listObj [.int b0 t0, .int b1 t1, .int b2 t2, .int b3 t3] nb) :: news) := fun p hp => by
    rcases List.mem_cons.mp hp with rfl | hp
    · exact N _ hP
    rcases List.mem_cons.mp hp with rfl | hp
    · exact N _ hc'
    rcases List.mem_cons.mp hp with rfl | hp
    · exact N _ hlf
    rcases List.mem_cons.mp hp with rfl | hp
    · exact N _ hlb
    · exact N _ hp
  replace N := N2
  clear N2
  w_top off
  refine wpAny_call ?_
  k_dflt cell_enter
  k_steps
  unfold Hold
  refine owit_for ?_ (by intro _; rfl) (by passes_own)
  k_steps
  rename Fr _ _ _ _ => F₁
  rename News _ _ _ _ => N₁
  rename LtT _ _ => hT
  refine' tup_loop rfl ?B F₁ ?X N₁ ?T ?D [PySem.Str.ofString "place", PySem.Str.ofString "ahead", PySem.Str.ofString "made"] (fun i => ∀ j < i, tryI fs [b0, b1, b2, b3] last (3 - j) = none) ?hm ?hsz ?h0 ?turn ?done
  case B => k_asm
  case X => k_asm
  case T => k_asm
  case D => k_asm
  case hm => exact .head _
  case hsz => show (4 : Nat) < 64; decide
  case h0 => intro j hj; exact absurd hj (Nat.not_lt_zero _)
  case done =>
    intro g' u h tk hP TT F₂ N₂ B₂ X₂ T₂ D₂
    clear F₁ N₁
    k_steps
    rename News _ _ _ _ => kN
    refine' hret _ _ _ _ _ _ (by assumption) (by assumption) (fun p hp => kN p ?b1) ?b2 (by assumption) (by assumption) (by assumption) (by assumption) ?b3
    case b1 =>
      rcases List.mem_cons.mp hp with rfl | hp
      · exact .head _
      · simp only [List.mem_cons]; simp only [hp, or_true]
    case b2 =>
      rename LtT _ _ => hz
      exact fun p hp => Nat.lt_of_lt_of_le (hz.all p hp) (Nat.le_of_lt (by omega))
    case b3 =>
      rw [stepI_none hP]
      exact .nil
  case turn =>
    intro i v g' u h tk I o rest hv hP hoff TT F₂ N₂ B₂ X₂ T₂ D₂ hrest
    clear F₁ N₁
    have hi : i < 4 := by
      rcases Nat.lt_or_ge i 4 with h | hn
      · exact h
      · rw [Array.getElem?_eq_none hn] at hv
        cases hv
    rcases i with _ | _ | _ | _ | i
    all_goals (first | omega | skip)
    · obtain ⟨tv, rfl⟩ : ∃ t, v = .int 3 t := ⟨_, (Option.some.inj hv).symm⟩
      clear hv
      k_steps
      rotate_left
      · unfold Hold
        rename News _ _ _ _ => kN
        rename _ ≠ _ => hc
        refine' hrest _ _ _ _ ?a1 ?a2 (fun p hp => kN p ?a3) ?a4 ?a5 ?a6 ?a7 (fun z hz => ?a8) (noneTo hP (tryI_no2 hc))
        case a1 => first | assumption | exact KtsTurn.trans (by assumption) (by assumption)
        case a2 => assumption
        case a3 => first | exact hp | exact .tail _ hp | exact .tail _ (.tail _ hp) | exact .tail _ (.tail _ (.tail _ hp)) | exact .tail _ (.tail _ (.tail _ (.tail _ hp)))
        case a4 => k_asm
        case a5 => k_asm
        case a6 => k_asm
        case a7 => k_asm
        case a8 =>
          have z1 := hz _ (.head _)
          have z2 := hz _ (.tail _ (.head _))
          have z3 := hz _ (.tail _ (.tail _ (.head _)))
          have z4 := contains_no hz
          simp only [if_neg z1, if_neg z2, if_neg z3, z4, Bool.false_eq_true, if_false]
      · unfold Hold
        rename News _ _ _ _ => kN
        rename _ ≠ _ => hc
        refine' hrest _ _ _ _ ?a1 ?a2 (fun p hp => kN p ?a3) ?a4 ?a5 ?a6 ?a7 (fun z hz => ?a8) (noneTo hP (tryI_no1 hc))
        case a1 => first | assumption | exact KtsTurn.trans (by assumption) (by assumption)
        case a2 => assumption
        case a3 => first | exact hp | exact .tail _ hp | exact .tail _ (.tail _ hp) | exact .tail _ (.tail _ (.tail _ hp)) | exact .tail _ (.tail _ (.tail _ (.tail _ hp)))
        case a4 => k_asm
        case a5 => k_asm
        case a6 => k_asm
        case a7 => k_asm
        case a8 =>
          have z1 := hz _ (.head _)
          have z2 := hz _ (.tail _ (.head _))
          have z3 := hz _ (.tail _ (.tail _ (.head _)))
          have z4 := contains_no hz
          simp only [if_neg z1, if_neg z2, if_neg z3, z4, Bool.false_eq_true, if_false]
      · unfold Hold
        rename Builtin.bitAnd (fullI _ _ _) _ = _ => h2
        rename Builtin.bitAnd last _ = 0 => h1
        dsimp only [OwitFlow]
        refine' LeaveT.intro ?k1 ?k2 ?k3 ?_
        case k1 => k_asm
        case k2 => k_asm
        case k3 => assumption
        intro g'' TT' F'' N'' B'' X'' T'' D''
        dsimp only
        refine' hret _ _ _ _ _ _ TT' F'' (fun p hp => N'' p ?b1) ?b2 B'' X'' T'' D'' ?b3
        case b1 =>
          rcases List.mem_cons.mp hp with rfl | hp
          · exact .head _
          · simp only [List.mem_cons]; simp only [hp, or_true]
        case b2 =>
          rename LtT _ _ => hz
          exact fun p hp => Nat.lt_of_lt_of_le (hz.all p hp) (Nat.le_of_lt (by omega))
        case b3 =>
          rw [stepI_at (i := 0) (by omega) hP (tryI_some h1 h2)]
          exact .cons _ _ .nil
    · obtain ⟨tv, rfl⟩ : ∃ t, v = .int 2 t := ⟨_, (Option.some.inj hv).symm⟩
      clear hv
      k_steps
      rotate_left
      · unfold Hold
        rename News _ _ _ _ => kN
        rename _ ≠ _ => hc
        refine' hrest _ _ _ _ ?a1 ?a2 (fun p hp => kN p ?a3) ?a4 ?a5 ?a6 ?a7 (fun z hz => ?a8) (noneTo hP (tryI_no2 hc))
        case a1 => first | assumption | exact KtsTurn.trans (by assumption) (by assumption)
        case a2 => assumption
        case a3 => first | exact hp | exact .tail _ hp | exact .tail _ (.tail _ hp) | exact .tail _ (.tail _ (.tail _ hp)) | exact .tail _ (.tail _ (.tail _ (.tail _ hp)))
        case a4 => k_asm
        case a5 => k_asm
        case a6 => k_asm
        case a7 => k_asm
        case a8 =>
          have z1 := hz _ (.head _)
          have z2 := hz _ (.tail _ (.head _))
          have z3 := hz _ (.tail _ (.tail _ (.head _)))
          have z4 := contains_no hz
          simp only [if_neg z1, if_neg z2, if_neg z3, z4, Bool.false_eq_true, if_false]
      · unfold Hold
        rename News _ _ _ _ => kN
        rename _ ≠ _ => hc
        refine' hrest _ _ _ _ ?a1 ?a2 (fun p hp => kN p ?a3) ?a4 ?a5 ?a6 ?a7 (fun z hz => ?a8) (noneTo hP (tryI_no1 hc))
        case a1 => first | assumption | exact KtsTurn.trans (by assumption) (by assumption)
        case a2 => assumption
        case a3 => first | exact hp | exact .tail _ hp | exact .tail _ (.tail _ hp) | exact .tail _ (.tail _ (.tail _ hp)) | exact .tail _ (.tail _ (.tail _ (.tail _ hp)))
        case a4 => k_asm
        case a5 => k_asm
        case a6 => k_asm
        case a7 => k_asm
        case a8 =>
          have z1 := hz _ (.head _)
          have z2 := hz _ (.tail _ (.head _))
          have z3 := hz _ (.tail _ (.tail _ (.head _)))
          have z4 := contains_no hz
          simp only [if_neg z1, if_neg z2, if_neg z3, z4, Bool.false_eq_true, if_false]
      · unfold Hold
        rename Builtin.bitAnd (fullI _ _ _) _ = _ => h2
        rename Builtin.bitAnd last _ = 0 => h1
        dsimp only [OwitFlow]
        refine' LeaveT.intro ?k1 ?k2 ?k3 ?_
        case k1 => k_asm
        case k2 => k_asm
        case k3 => assumption
        intro g'' TT' F'' N'' B'' X'' T'' D''
        dsimp only
        refine' hret _ _ _ _ _ _ TT' F'' (fun p hp => N'' p ?b1) ?b2 B'' X'' T'' D'' ?b3
        case b1 =>
          rcases List.mem_cons.mp hp with rfl | hp
          · exact .head _
          · simp only [List.mem_cons]; simp only [hp, or_true]
        case b2 =>
          rename LtT _ _ => hz
          exact fun p hp => Nat.lt_of_lt_of_le (hz.all p hp) (Nat.le_of_lt (by omega))
        case b3 =>
          rw [stepI_at (i := 1) (by omega) hP (tryI_some h1 h2)]
          exact .cons _ _ .nil
    · obtain ⟨tv, rfl⟩ : ∃ t, v = .int 1 t := ⟨_, (Option.some.inj hv).symm⟩
      clear hv
      k_steps
      rotate_left
      · unfold Hold
        rename News _ _ _ _ => kN
        rename _ ≠ _ => hc
        refine' hrest _ _ _ _ ?a1 ?a2 (fun p hp => kN p ?a3) ?a4 ?a5 ?a6 ?a7 (fun z hz => ?a8) (noneTo hP (tryI_no2 hc))
        case a1 => first | assumption | exact KtsTurn.trans (by assumption) (by assumption)
        case a2 => assumption
        case a3 => first | exact hp | exact .tail _ hp | exact .tail _ (.tail _ hp) | exact .tail _ (.tail _ (.tail _ hp)) | exact .tail _ (.tail _ (.tail _ (.tail _ hp)))
        case a4 => k_asm
        case a5 => k_asm
        case a6 => k_asm
        case a7 => k_asm
        case a8 =>
          have z1 := hz _ (.head _)
          have z2 := hz _ (.tail _ (.head _))
          have z3 := hz _ (.tail _ (.tail _ (.head _)))
          have z4 := contains_no hz
          simp only [if_neg z1, if_neg z2, if_neg z3, z4, Bool.false_eq_true, if_false]
      · unfold Hold
        rename News _ _ _ _ => kN
        rename _ ≠ _ => hc
        refine' hrest _ _ _ _ ?a1 ?a2 (fun p hp => kN p ?a3) ?a4 ?a5 ?a6 ?a7 (fun z hz => ?a8) (noneTo hP (tryI_no1 hc))
        case a1 => first | assumption | exact KtsTurn.trans (by assumption) (by assumption)
        case a2 => assumption
        case a3 => first | exact hp | exact .tail _ hp | exact .tail _ (.tail _ hp) | exact .tail _ (.tail _ (.tail _ hp)) | exact .tail _ (.tail _ (.tail _ (.tail _ hp)))
        case a4 => k_asm
        case a5 => k_asm
        case a6 => k_asm
        case a7 => k_asm
        case a8 =>
          have z1 := hz _ (.head _)
          have z2 := hz _ (.tail _ (.head _))
          have z3 := hz _ (.tail _ (.tail _ (.head _)))
          have z4 := contains_no hz
          simp only [if_neg z1, if_neg z2, if_neg z3, z4, Bool.false_eq_true, if_false]
      · unfold Hold
        rename Builtin.bitAnd (fullI _ _ _) _ = _ => h2
        rename Builtin.bitAnd last _ = 0 => h1
        dsimp only [OwitFlow]
        refine' LeaveT.intro ?k1 ?k2 ?k3 ?_
        case k1 => k_asm
        case k2 => k_asm
        case k3 => assumption
        intro g'' TT' F'' N'' B'' X'' T'' D''
        dsimp only
        refine' hret _ _ _ _ _ _ TT' F'' (fun p hp => N'' p ?b1) ?b2 B'' X'' T'' D'' ?b3
        case b1 =>
          rcases List.mem_cons.mp hp with rfl | hp
          · exact .head _
          · simp only [List.mem_cons]; simp only [hp, or_true]
        case b2 =>
          rename LtT _ _ => hz
          exact fun p hp => Nat.lt_of_lt_of_le (hz.all p hp) (Nat.le_of_lt (by omega))
        case b3 =>
          rw [stepI_at (i := 2) (by omega) hP (tryI_some h1 h2)]
          exact .cons _ _ .nil
    · obtain ⟨tv, rfl⟩ : ∃ t, v = .int 0 t := ⟨_, (Option.some.inj hv).symm⟩
      clear hv
      k_steps
      rotate_left
      · unfold Hold
        rename News _ _ _ _ => kN
        rename _ ≠ _ => hc
        refine' hrest _ _ _ _ ?a1 ?a2 (fun p hp => kN p ?a3) ?a4 ?a5 ?a6 ?a7 (fun z hz => ?a8) (noneTo hP (tryI_no2 hc))
        case a1 => first | assumption | exact KtsTurn.trans (by assumption) (by assumption)
        case a2 => assumption
        case a3 => first | exact hp | exact .tail _ hp | exact .tail _ (.tail _ hp) | exact .tail _ (.tail _ (.tail _ hp)) | exact .tail _ (.tail _ (.tail _ (.tail _ hp)))
        case a4 => k_asm
        case a5 => k_asm
        case a6 => k_asm
        case a7 => k_asm
        case a8 =>
          have z1 := hz _ (.head _)
          have z2 := hz _ (.tail _ (.head _))
          have z3 := hz _ (.tail _ (.tail _ (.head _)))
          have z4 := contains_no hz
          simp only [if_neg z1, if_neg z2, if_neg z3, z4, Bool.false_eq_true, if_false]
      · unfold Hold
        rename News _ _ _ _ => kN
        rename _ ≠ _ => hc
        refine' hrest _ _ _ _ ?a1 ?a2 (fun p hp => kN p ?a3) ?a4 ?a5 ?a6 ?a7 (fun z hz => ?a8) (noneTo hP (tryI_no1 hc))
        case a1 => first | assumption | exact KtsTurn.trans (by assumption) (by assumption)
        case a2 => assumption
        case a3 => first | exact hp | exact .tail _ hp | exact .tail _ (.tail _ hp) | exact .tail _ (.tail _ (.tail _ hp)) | exact .tail _ (.tail _ (.tail _ (.tail _ hp)))
        case a4 => k_asm
        case a5 => k_asm
        case a6 => k_asm
        case a7 => k_asm
        case a8 =>
          have z1 := hz _ (.head _)
          have z2 := hz _ (.tail _ (.head _))
          have z3 := hz _ (.tail _ (.tail _ (.head _)))
          have z4 := contains_no hz
          simp only [if_neg z1, if_neg z2, if_neg z3, z4, Bool.false_eq_true, if_false]
      · unfold Hold
        rename Builtin.bitAnd (fullI _ _ _) _ = _ => h2
        rename Builtin.bitAnd last _ = 0 => h1
        dsimp only [OwitFlow]
        refine' LeaveT.intro ?k1 ?k2 ?k3 ?_
        case k1 => k_asm
        case k2 => k_asm
        case k3 => assumption
        intro g'' TT' F'' N'' B'' X'' T'' D''
        dsimp only
        refine' hret _ _ _ _ _ _ TT' F'' (fun p hp => N'' p ?b1) ?b2 B'' X'' T'' D'' ?b3
        case b1 =>
          rcases List.mem_cons.mp hp with rfl | hp
          · exact .head _
          · simp only [List.mem_cons]; simp only [hp, or_true]
        case b2 =>
          rename LtT _ _ => hz
          exact fun p hp => Nat.lt_of_lt_of_le (hz.all p hp) (Nat.le_of_lt (by omega))
        case b3 =>
          rw [stepI_at (i := 3) (by omega) hP (tryI_some h1 h2)]
          exact .cons _ _ .nil
  all_goals exact default
end
local macro_rules | `(tactic| walk_at "call builtin:iter") => `(tactic| (k_here; (with_reducible show wpAny _ _ (call (Value.builtin "iter") [Value.ref _]) _ _ _); k_dflt (refine' k_iter_rg ?F ?N ?m ?_; (case F => k_asm); (case N => k_asm); (case m => k_mem); k_whole); intro q' h' F' N' l1; (try k_lt l1); (try k_sweep)))
local macro_rules | `(tactic| walk_at "call ref") => `(tactic| (k_here; (with_reducible show wpAny _ _ (call (Value.ref _) [Value.ref _, Value.int _ _]) _ _ _); (rename FnRow _ _ _ _ _ _ _ _ _ _ _ _ _ => hFn); k_dflt (refine' hFn _ _ _ _ _ _ _ _ _ _ _ _ _ _ _ _ _ _ _ _ _ _ _ _ ?B ?F ?X ?N ?T ?K ?dp ?D ?T0 ?O ?l ?i ?ne ?ln ?_; (case B => k_asm); (case F => k_asm); (case X => k_asm); (case N => k_asm); (case T => k_asm); (case K => first | exact rfl | assumption); (case dp => ktr_room); (case D => assumption); (case T0 => first | assumption | exact KtsTurn.refl); (case O => ((rename SubL _ _ => hO); exact fun q hq => by (simp only [List.mem_cons]; simp only [hO q hq, or_true]))); (case l => k_mem); (case i => assumption); (case ne => solve_by_elim); (case ln => solve_by_elim); k_whole); intro R' vs' c' g' h' tk' TT' F' N' l1 B' X' T' D' i'; have hW' := LtW.of l1; (k_lt l1)))
theorem c_reduce2 {w : World} {loose : List Str} {mean : ExcName → Option Value} {mg mb : Str → Option Value}
  (dp un : Nat) (gd : Option (List Code)) (cn : Str) (cs : Scope) (a : Addr) (ccd : Value) (cl : List (Str × Addr)) (outer : List Env) (A₀ : Around) (base g₀ h₀ : Heap) (L : Addr) (m : Str → Option Value) (s : Shared) (Q E : Value → Shared → Prop)
  (news : List (Addr × Obj)) (r : Addr) (t1 t2 t3 : Tok) (R₀ : Addr) (vs : List Value) (c : Nat) (ns : List Int) (f : Addr) (oc : Value) (od : Option Addr) (fd : FuncData) (sl : Array (Option Value)) (d0 : Nat) (G : List Int → List Int) (rows : Nat → List Int) (own : List (Addr × Obj))
  (B : Below A₀ base outer h₀) (F : Fr h₀ L s.heap m) (X : (hd.heap_39 w.params).In h₀) (N : News h₀ L s.heap news) (T : Top topProg loose mean mg mb h₀) (hk : cs.kind = .function)
  (XB : (hd.heap_39 w.params).In base) (TB : Top topProg loose mean mg mb base) (D : KtsDicts (outer.filterMap (·.frame)) h₀) (T0 : KtsTurn (outer.filterMap (·.frame)) g₀ h₀)
  (hr : (r, rgObj 16 t1 t2 t3) ∈ news) (hf : (f, (⟨oc, od, .func fd, sl⟩ : Obj)) ∈ news) (hR : (R₀, listObj vs c) ∈ news) (hi : IntsAre vs (rows 0)) (hne : ∀ i, rows i ≠ []) (hrl : ∀ i, (rows i).length ≤ 64) (hstep : ∀ i, rows (i + 1) = G (rows i))
  (hfn : FnRow PySem.Challenge.rw_il0043_01.row.prog w (hd.heap_39 w.params) topProg loose mean mg mb base f own d0 G) (hown : SubL own news)
  (hdp : dp + 1 + d0 < recursionLimit) (hRo : R₀ ≠ 15)
  (hret : ∀ (R : Addr) (vs' : List Value) (c' : Nat) (h₀' h' : Heap) (tk' : Nat), KtsTurn (outer.filterMap (·.frame)) g₀ h₀' → Fr h₀' L h' m → News h₀' L h' ((R, listObj vs' c') :: news) → Below A₀ base outer h₀' → (hd.heap_39 w.params).In h₀' → Top topProg loose mean mg mb h₀' → KtsDicts (outer.filterMap (·.frame)) h₀' →
    IntsAre vs' (rows 16) → Q (.ref R) { s with heap := h', toks := tk' }) :
  wpAny (model PySem.Challenge.rw_il0043_01.row.prog w) (ktrTop dp un gd cn cs L a ccd cl outer) (call (.ref 23) [.ref f, .ref r, .ref R₀]) Q E s := by
  have N2 : News h₀ L s.heap ((r, rgObj 16 t1 t2 t3) :: (f, (⟨oc, od, .func fd, sl⟩ : Obj)) :: (R₀, listObj vs c) :: news) := fun p hp => by
    rcases List.mem_cons.mp hp with rfl | hp
    · exact N _ hr
    rcases List.mem_cons.mp hp with rfl | hp
    · exact N _ hf
    rcases List.mem_cons.mp hp with rfl | hp
    · exact N _ hR
    · exact N _ hp
  replace N := N2
  clear N2
  w_top off
  refine wpAny_call ?_
  k_dflt (refine' code_defT B F X N T XB TB D T0 rfl rfl hk ?k6 ?k7 ?k8 ?k9 ?kB ?_ ?c2 ?c3 ?c4 ?c5; (case k6 => k_is); (case k7 => k_is); (case k8 => k_room); (case k9 => exact binds_K (X.keeps F.keep) rfl (by k_is) rfl rfl rfl); (case c5 => decide); (case kB => exact locs rfl); (case c2 => exact rfl); (case c3 => exact rfl); (case c4 => exact rfl); k_whole; intro g' L' h' FG' F' N' B' X' T' D' l1; (try (replace l1 := allLt_of l1; simp only [AllLt, and_true] at l1)); (try dsimp only); (try k_lift B'); (try k_fold))
  k_steps
  unfold Hold
  rename Fr _ _ _ _ => F₁
  rename News _ _ _ _ => N₁
  rename LtT _ _ => hT
  refine owit_for ?_ (by intro _; rfl) (by passes_own)
  k_steps
  have N₂ : News g' L' _ ((_, riObj 0 16) :: (R₀, listObj vs c) :: (f, (⟨oc, od, .func fd, sl⟩ : Obj)) :: news) := fun p hp => N₁ p (by
    simp only [List.mem_cons] at hp ⊢
    rcases hp with h | h | h | h
    · exact .inl h
    · exact .inr (.inr (.inr (.inl h)))
    · exact .inr (.inr (.inl h))
    · exact .inr (.inr (.inr (.inr h))))
  refine rng_loop (y := PySem.Str.ofString "value") rows rfl B' F₁ X' N₂ T' D' ?hoff hi rfl ?turn ?done
  case hoff =>
    intro p hp
    rcases List.mem_cons.mp hp with rfl | hp
    · refine neN ?_; dsimp only; omega
    rcases List.mem_cons.mp hp with rfl | hp
    · refine neN ?_; dsimp only; omega
    · exact hT.ne (by omega) p hp
  case turn =>
    intro i tv g' u h tk o R vs1 c1 rest hoff TT F₂ N₃ hi1 B₂ X₂ T₂ D₂ hrest
    clear F₁ N₁ N₂
    k_steps
    unfold Hold
    rename News _ _ _ _ => kN
    rename Fr _ _ _ _ => kF
    rename KtsTurn _ _ _ => kT
    refine' hrest _ _ _ _ _ _ _ kT kF (fun p hp => kN p ?a3) ?a9 ?a4 ?a5 ?a6 ?a7 ?yy (fun z h1 h2 => ?a8) ?ii
    case yy => with_unfolding_all rfl
    case ii => rw [hstep]; assumption
    case a3 =>
      rcases List.mem_cons.mp hp with h | hp
      · exact .tail _ (h ▸ .head _)
      rcases List.mem_cons.mp hp with h | hp
      · rw [h]; exact .head _
      · exact .tail _ (.tail _ (.tail _ hp))
    case a9 => refine neN ?_; omega
    case a4 => k_asm
    case a5 => k_asm
    case a6 => k_asm
    case a7 => k_asm
    case a8 => simp only [if_neg h1, if_neg h2]
  case done =>
    intro g' u h tk R vs1 c1 TT F₂ N₃ hi1 B₂ X₂ T₂ D₂
    clear F₁ N₁ N₂
    k_steps
    rename News _ _ _ _ => kN
    refine' hret _ _ _ _ _ _ (by assumption) (by assumption) (fun p hp => kN p ?b1) (by assumption) (by assumption) (by assumption) (by assumption) hi1
    case b1 =>
      rcases List.mem_cons.mp hp with h | hp
      · rw [h]; exact .head _
      · exact .tail _ (.tail _ hp)
  all_goals exact default
section
local macro_rules | `(tactic| ktr_enter) => `(tactic| (refine' code_defTC ?k1 ?k2 ?k3 ?k4 ?k5 ?xb ?tb ?dd ?t0 ?kA ?kF ?kK ?k6 ?k7 ?k8 ?k9 ?kB ?kD ?_ ?c2 ?c3 ?c4; (case kA => exact rfl); (case kF => exact rfl); (case kK => first | exact rfl | assumption); (case k1 => k_asm); (case k2 => k_asm); (case k3 => k_asm); (case k4 => k_asm); (case k5 => k_asm); (case xb => assumption); (case tb => assumption); (case dd => assumption); (case t0 => first | assumption | exact KtsTurn.refl); (case k6 => k_is); (case k7 => k_is); (case k8 => k_room); (case k9 => first | exact BindsTo.of_eq rfl | exact binds_K (by k_in) rfl (by k_is) rfl rfl rfl | fail "k_enter: no rule for these arguments"); (case kB => exact rfl); (case kD => decide +kernel); (case c2 => exact rfl); (case c3 => exact rfl); (case c4 => exact rfl); k_whole; intro g' L' h' tk' cells' FG' F' N' Y' B' X' T' D' l1; (have hTL := l1; (repeat replace hTL := lt_tail hTL); replace hTL := LtW.of hTL); (try (replace l1 := allLt_of l1; simp only [AllLt, and_true] at l1)); k_cells Y'; (try simp only [List.cons_append, List.nil_append] at N'); (try dsimp only); (try k_lift B'); (try k_fold)))
local macro_rules | `(tactic| walk_at "exec For Name Call cons nil") => `(tactic| (k_here; refine Hold.mk ?_))
local macro_rules | `(tactic| walk_at "CompSrcT") => `(tactic| (k_here; k_dflt (refine LCt.CompSrcT.range (by rfl) (by k_asm) (by k_asm) (by assumption) (by first | decide | rfl) (by first | rfl | decide) (by first | size_fits | exact Nat.le_of_ble_eq_true rfl) ?_; intro g'; refine Hold.mk ?_)))
local macro_rules | `(tactic| walk_at "eval ListComp") => `(tactic| (k_here; lcg_look; lcg_calm; k_dflt (refine LCg.ListComp_U (F₀ := by k_asm) (by rfl) (by decide) (by rfl) (by decide) (by rfl) ?_); k_dflt lcg_toSrc))
set_option hygiene false in
local macro_rules | `(tactic| walk_at "CompSrc") => `(tactic| (k_here; k_dflt (refine LCg.CompSrc.ledger (by rfl) (by k_asm) (by k_asm) (by k_mem) (Nat.le_trans (m := 64) (by simpa using hlen4) (by decide)) ?_; intro g'; refine Hold.mk ?_)))
local macro_rules | `(tactic| walk_at "CompEnd") => `(tactic| (with_reducible refine Hold.mk ?_))
set_option hygiene false in
local macro_rules | `(tactic| walk_at "binaryOp FloorDiv int int") => `(tactic| (k_here; simp only [hgd]; (with_reducible refine floordiv_int ?kbe ?_ (Or.inl (PyProof.noPylong_small (by omega)))); (case kbe => omega)))
local macro_rules | `(tactic| k_ne) => `(tactic| (refine neN ?_; (try dsimp only); first | assumption | (refine Ne.symm ?_; assumption) | omega | exact news_ne (by k_asm) (by k_mem) (by k_mem) (by nofun)))
def JSh (rest : List (Addr × Obj)) (aM aW : Addr) (founds : Nat → List Int) (m₁ : Str → Option Value) (hx fx : Str) (i : Nat) (m : Str → Option Value) (news' : List (Addr × Obj)) : Prop :=
  ∃ (S : Addr) (vs : List Value) (c : Nat) (oM oW : Obj) (xM xW : Option Value) (u : Str → Option Value), news' = (S, listObj vs c) :: (aM, oM) :: (aW, oW) :: rest ∧ (@LT.lt Nat _ aM S ∧ @LT.lt Nat _ aW S ∧ ∀ p ∈ rest, @LT.lt Nat _ p.1 S) ∧ oM.data = .cell xM ∧ oW.data = .cell xW ∧ IntsAre vs (founds i) ∧ m = fun z => if z = hx then u z else if z = fx then some (.ref S) else m₁ z
theorem JSh.start {rest : List (Addr × Obj)} {aM aW S : Addr} {founds : Nat → List Int} {m : Str → Option Value} {hx fx : Str} {i : Nat} {vs : List Value} {c : Nat} {oM oW : Obj} {xM xW : Option Value} (hl : @LT.lt Nat _ aM S ∧ @LT.lt Nat _ aW S ∧ ∀ p ∈ rest, @LT.lt Nat _ p.1 S) (d1 : oM.data = .cell xM) (d2 : oW.data = .cell xW) (hi : IntsAre vs (founds i)) (hm : m fx = some (.ref S)) :
    JSh rest aM aW founds m hx fx i m ((S, listObj vs c) :: (aM, oM) :: (aW, oW) :: rest) := ⟨S, vs, c, oM, oW, xM, xW, m, rfl, hl, d1, d2, hi, row_map hm fun _ _ _ => rfl⟩
theorem JSh.go {rest : List (Addr × Obj)} {aM aW S : Addr} {founds : Nat → List Int} {m m' : Str → Option Value} {hx fx : Str} {i : Nat} {vs : List Value} {c : Nat} {oM oW : Obj} {xM xW : Option Value} (hl : @LT.lt Nat _ aM S ∧ @LT.lt Nat _ aW S ∧ ∀ p ∈ rest, @LT.lt Nat _ p.1 S) (d1 : oM.data = .cell xM) (d2 : oW.data = .cell xW) (hi : IntsAre vs (founds i)) (hm : m' fx = some (.ref S)) (hz : ∀ z, z ≠ hx → z ≠ fx → m' z = m z) :
    JSh rest aM aW founds m hx fx i m' ((S, listObj vs c) :: (aM, oM) :: (aW, oW) :: rest) := ⟨S, vs, c, oM, oW, xM, xW, m', rfl, hl, d1, d2, hi, row_map hm hz⟩
def JTl (rest : List (Addr × Obj)) (aT aM : Addr) (tolds : Nat → List Int) (m₁ : Str → Option Value) (i : Nat) (m : Str → Option Value) (news' : List (Addr × Obj)) : Prop :=
  ∃ (vs : List Value) (c : Nat) (oM : Obj) (xM : Option Value), news' = (aT, listObj vs c) :: (aM, oM) :: rest ∧ oM.data = .cell xM ∧ IntsAre vs (tolds i) ∧ m = m₁
theorem c_shared {w : World} {loose : List Str} {mean : ExcName → Option Value} {mg mb : Str → Option Value}
  (dp un : Nat) (gd : Option (List Code)) (cn : Str) (cs : Scope) (a : Addr) (ccd : Value) (cl : List (Str × Addr)) (outer : List Env) (A₀ : Around) (base g₀ h₀ : Heap) (L : Addr) (m : Str → Option Value) (s : Shared) (Q E : Value → Shared → Prop)
  (a1 a2 a3 a4 a5 : Addr) (o1 o2 o3 o4 o5 : Obj) (lf lb : Addr) (nf nb : Nat) (f0 f1 f2 f3 : Int) (u0 u1 u2 u3 : Tok) (b0 b1 b2 b3 : Int) (t0 t1 t2 t3 : Tok)
  (B : Below A₀ base outer h₀) (F : Fr h₀ L s.heap m) (X : (hd.heap_39 w.params).In h₀) (N : News h₀ L s.heap [(lf, listObj [.int f0 u0, .int f1 u1, .int f2 u2, .int f3 u3] nf), (lb, listObj [.int b0 t0, .int b1 t1, .int b2 t2, .int b3 t3] nb), (a1, o1), (a2, o2), (a3, o3), (a4, o4), (a5, o5)]) (T : Top topProg loose mean mg mb h₀) (hk : cs.kind = .function)
  (XB : (hd.heap_39 w.params).In base) (TB : Top topProg loose mean mg mb base) (D : KtsDicts (outer.filterMap (·.frame)) h₀) (T0 : KtsTurn (outer.filterMap (·.frame)) g₀ h₀)
  (hb0 : 0 < b0) (hb1 : 0 < b1) (hb2 : 0 < b2) (hb3 : 0 < b3) (hc0 : b0 ≤ 32768) (hc1 : b1 ≤ 32768) (hc2 : b2 ≤ 32768) (hc3 : b3 ≤ 32768)
  (hdp : dp + 10 < recursionLimit) (founds : Nat → List Int) (hf0 : founds 0 = [15]) (tolds : Nat → List Int) (ht0 : tolds 0 = []) (htl : ∀ i, (tolds i).length ≤ 64) (hts : ∀ i : Nat, i < 16 → tolds (i + 1) = if ((founds 4).any fun x => x == (i : Int)) = true then tolds i ++ [(tellN [b0, b1, b2, b3] i 4).sum] else tolds i) (hfl : ∀ i, (founds i).length ≤ 64) (hfs : ∀ i fi, [f0, f1, f2, f3][i]? = some fi → founds (i + 1) = founds i ++ (founds i).map (fun one => Builtin.bitAnd one (worthI [b0, b1, b2, b3] fi)))
  (hret : ∀ (S : Addr) (acc : List Value) (c : Nat) (h₀' h' : Heap) (tk' : Nat), KtsTurn (outer.filterMap (·.frame)) g₀ h₀' → Fr h₀' L h' m → News h₀' L h' [(S, listObj acc c), (a1, o1), (a2, o2), (a3, o3), (a4, o4), (a5, o5)] → Below A₀ base outer h₀' → (hd.heap_39 w.params).In h₀' → Top topProg loose mean mg mb h₀' → KtsDicts (outer.filterMap (·.frame)) h₀' →
    IntsAre acc (tolds 16) → Q (.ref S) { s with heap := h', toks := tk' }) :
  wpAny (model PySem.Challenge.rw_il0043_01.row.prog w) (ktrTop dp un gd cn cs L a ccd cl outer) (call (.ref 91) [.ref lf, .ref lb]) Q E s := by
  have hif : IntsAre [.int f0 u0, .int f1 u1, .int f2 u2, .int f3 u3] [f0, f1, f2, f3] := .cons _ _ (.cons _ _ (.cons _ _ (.cons _ _ .nil)))
  have hib : IntsAre [.int b0 t0, .int b1 t1, .int b2 t2, .int b3 t3] [b0, b1, b2, b3] := .cons _ _ (.cons _ _ (.cons _ _ (.cons _ _ .nil)))
  w_top off
  refine wpAny_call ?_
  k_dflt (refine' code_defTC ?k1 ?k2 ?k3 ?k4 ?k5 ?xb ?tb ?dd ?t0 ?kA ?kF ?kK ?k6 ?k7 ?k8 ?k9 ?kB ?kD ?_ ?c2 ?c3 ?c4; (case kA => exact rfl); (case kF => exact rfl); (case kK => first | exact rfl | assumption); (case k1 => k_asm); (case k2 => k_asm); (case k3 => k_asm); (case k4 => k_asm); (case k5 => k_asm); (case xb => assumption); (case tb => assumption); (case dd => assumption); (case t0 => first | assumption | exact KtsTurn.refl); (case k6 => k_is); (case k7 => k_is); (case k8 => k_room); (case k9 => first | exact BindsTo.of_eq rfl | exact binds_K (by k_in) rfl (by k_is) rfl rfl rfl | fail "k_enter: no rule for these arguments"); (case kB => exact rfl); (case kD => decide +kernel); (case c2 => exact rfl); (case c3 => exact rfl); (case c4 => exact rfl); k_whole; intro g' L' h' tk' cells' FG' F' N' Y' B' X' T' D' l1; (try (replace l1 := allLt_of l1; simp only [AllLt, and_true] at l1)); k_cells Y'; (try simp only [List.cons_append, List.nil_append] at N'); (try dsimp only); (try k_lift B'); (try k_fold))
  k_steps
  unfold Hold
  rename Fr _ _ _ _ => F₁
  rename News _ _ _ _ => N₁
  rename LtT _ _ => hT
  refine owit_for ?_ (by intro _; rfl) (by passes_own)
  k_steps
  clear X T hdp
  (rename Obj.data _ = Data.cell _ => d3); revert d3
  (rename Obj.data _ = Data.cell _ => d2); revert d2
  (rename Obj.data _ = Data.cell _ => d1)
  intro d2 d3
  have e3 := d3.trans (show Data.cell _ = Data.cell (some (.ref lb)) from rfl)
  clear d3
  rename Obj => oBits
  obtain ⟨m₁, F₁, hf1⟩ : ∃ m₁, Fr g' L' _ m₁ ∧ m₁ (PySem.Str.ofString "found") = some (.ref _) := ⟨_, F₁, by with_unfolding_all rfl⟩
  refine' list_loop (JSh ((L' + 1, oBits) :: (lf, listObj [.int f0 u0, .int f1 u1, .int f2 u2, .int f3 u3] nf) :: (lb, listObj [.int b0 t0, .int b1 t1, .int b2 t2, .int b3 t3] nb) :: [(a1, o1), (a2, o2), (a3, o3), (a4, o4), (a5, o5)]) (L' + 1 + 1 + 1) (L' + 1 + 1) founds _ (PySem.Str.ofString "here") (PySem.Str.ofString "found")) rfl ?B F₁ ?X N₁ ?T ?D ?hm ?hsz ?haux ?h0 ?turn ?done
  case hm => exact .tail _ (.tail _ (.tail _ (.tail _ (.head _))))
  case h0 =>
    have hi0 : ∀ t, IntsAre [.int 15 t] (founds 0) := fun t => by rw [hf0]; exact .cons _ _ .nil
    refine JSh.start ?_ d1 d2 (hi0 _) ?_
    · refine ⟨?_, ?_, ?_⟩
      · omega
      · omega
      · simp only [List.forall_mem_cons]
        refine ⟨?_, ?_, ?_, ?_, ?_, ?_, ?_, ?_, fun _ h => absurd h List.not_mem_nil⟩ <;> omega
    · exact hf1
  case B => k_asm
  case X => k_asm
  case T => k_asm
  case D => k_asm
  case hsz => show (4 : Nat) < 64; decide
  case haux =>
    intro i m news' hJ
    obtain ⟨S, vs, c, oM, oW, xM, xW, u, rfl, hl, h1, h2, h3, rfl⟩ := hJ
    exact .tail _ (.tail _ (.tail _ (.tail _ (.head _))))
  case turn =>
    intro i v g' m' h tk I o news' rest hv hoff hJ TT F₂ N₂ B₂ X₂ T₂ D₂ hrest
    obtain ⟨S, vs, c, oM, oW, xM, xW, u, rfl, ⟨hl1, hl2, hl3⟩, h1, h2, hi1, rfl⟩ := hJ
    obtain ⟨fi, tf, rfl, hfi⟩ := hif.at i v hv
    clear hv
    have hq : ∀ p ∈ ((S, listObj vs c) :: (L' + 1 + 1 + 1, oM) :: (L' + 1 + 1, oW) :: (L' + 1, oBits) :: (lf, listObj [.int f0 u0, .int f1 u1, .int f2 u2, .int f3 u3] nf) :: (lb, listObj [.int b0 t0, .int b1 t1, .int b2 t2, .int b3 t3] nb) :: [(a1, o1), (a2, o2), (a3, o3), (a4, o4), (a5, o5)] : List (Addr × Obj)), @Ne Nat p.1 I := hoff
    simp only [List.forall_mem_cons] at hq
    simp only [List.forall_mem_cons] at hl3
    obtain ⟨q1, q2, q3, q4, q5, q6, q7, q8, q9, q10, q11, _⟩ := hq
    obtain ⟨r4, r5, r6, r7, r8, r9, r10, r11, _⟩ := hl3
    walk1
    dsimp only
    refine cut2 (fun s' => ∃ h2 tk2 uu oM2 oW2 xW tW, s' = { s with heap := h2, toks := tk2 } ∧ Fr g' L' h2 (fun z => if z = PySem.Str.ofString "here" then (uu : Str → Option Value) z else if z = PySem.Str.ofString "found" then some (.ref S) else m₁ z) ∧ News g' L' h2 ((I, o) :: (S, listObj vs c) :: (L' + 1 + 1 + 1, oM2) :: (L' + 1 + 1, oW2) :: (L' + 1, oBits) :: (lf, listObj [.int f0 u0, .int f1 u1, .int f2 u2, .int f3 u3] nf) :: (lb, listObj [.int b0 t0, .int b1 t1, .int b2 t2, .int b3 t3] nb) :: [(a1, o1), (a2, o2), (a3, o3), (a4, o4), (a5, o5)]) ∧ oW2.data = .cell xW ∧ oM2.data = .cell (some (.int (worthI [b0, b1, b2, b3] fi) tW))) ?_ ?_
    · k_steps
      unfold Hold
      refine rest_indT (fun i ys => IntsAre ys (selN [b0, b1, b2, b3] fi i)) ?step ?fin _ 0 [] (by rfl) .nil
      case step =>
        intro j ys hj hC v I2 oI2 Cc oC2 D2 m2 h2 tk2 E2 hv hC2 hx2 F4 N4 off4 ne4
        obtain ⟨tv, rfl⟩ := hv
        have hj4 : j < 4 := hj
        clear hj
        rcases j with _ | _ | _ | _ | j
        · have hgd : [b0, b1, b2, b3].getD (0 + ((0 : Nat) : Int)).toNat 0 = b0 := rfl
          (repeat' (first | walk1 | (dsimp only; walk1)))
          · unfold Hold
            rename _ = (1 : Int) => hc
            exact LCg.CompEnd.intro F4 N4 _ (fun p hp => hp) off4 trivial ⟨rfl, by rw [selN_yes (i := 0) hc]; exact IntsAreSnoc hC _ _⟩
          · unfold Hold
            rename _ ≠ (1 : Int) => hc
            exact LCg.CompEnd.intro F4 N4 _ (fun p hp => hp) off4 trivial ⟨rfl, by rw [selN_no (i := 0) hc]; exact hC⟩
        · have hgd : [b0, b1, b2, b3].getD (0 + ((0 + 1 : Nat) : Int)).toNat 0 = b1 := rfl
          (repeat' (first | walk1 | (dsimp only; walk1)))
          · unfold Hold
            rename _ = (1 : Int) => hc
            exact LCg.CompEnd.intro F4 N4 _ (fun p hp => hp) off4 trivial ⟨rfl, by rw [selN_yes (i := 1) hc]; exact IntsAreSnoc hC _ _⟩
          · unfold Hold
            rename _ ≠ (1 : Int) => hc
            exact LCg.CompEnd.intro F4 N4 _ (fun p hp => hp) off4 trivial ⟨rfl, by rw [selN_no (i := 1) hc]; exact hC⟩
        · have hgd : [b0, b1, b2, b3].getD (0 + ((0 + 1 + 1 : Nat) : Int)).toNat 0 = b2 := rfl
          (repeat' (first | walk1 | (dsimp only; walk1)))
          · unfold Hold
            rename _ = (1 : Int) => hc
            exact LCg.CompEnd.intro F4 N4 _ (fun p hp => hp) off4 trivial ⟨rfl, by rw [selN_yes (i := 2) hc]; exact IntsAreSnoc hC _ _⟩
          · unfold Hold
            rename _ ≠ (1 : Int) => hc
            exact LCg.CompEnd.intro F4 N4 _ (fun p hp => hp) off4 trivial ⟨rfl, by rw [selN_no (i := 2) hc]; exact hC⟩
        · have hgd : [b0, b1, b2, b3].getD (0 + ((0 + 1 + 1 + 1 : Nat) : Int)).toNat 0 = b3 := rfl
          (repeat' (first | walk1 | (dsimp only; walk1)))
          · unfold Hold
            rename _ = (1 : Int) => hc
            exact LCg.CompEnd.intro F4 N4 _ (fun p hp => hp) off4 trivial ⟨rfl, by rw [selN_yes (i := 3) hc]; exact IntsAreSnoc hC _ _⟩
          · unfold Hold
            rename _ ≠ (1 : Int) => hc
            exact LCg.CompEnd.intro F4 N4 _ (fun p hp => hp) off4 trivial ⟨rfl, by rw [selN_no (i := 3) hc]; exact hC⟩
        · omega
      case fin =>
        intro ys hys
        have hlen4 : ys.length ≤ 64 := Nat.le_trans (Nat.le_trans (Nat.le_of_eq hys.length) (selN_len _ _ 4)) (by decide)
        (repeat' (first | walk1 | (dsimp only; walk1)))
        unfold Hold
        refine rest_ind (fun i ys2 => IntsAre ys2 (((selN [b0, b1, b2, b3] fi 4).take i).map w8)) ?step2 ?fin2 _ 0 [] (by rfl) .nil
        case step2 =>
          intro j ys2 hj hC2 v I3 oI3 Cc3 oC3 D3 m3 h3 tk3 E3 hv hC3 hx3 F5 N5 off5 ne5
          obtain ⟨k, tv, rfl, hk⟩ := hys.at j v (by simpa using hv)
          have hb := selN_bound _ _ _ k (List.mem_of_getElem? hk)
          have hb0 : (0 : Int) ≤ k := hb.1
          have hb4 : k < (4 : Int) := hb.2
          clear hb
          obtain rfl | rfl | rfl | rfl : k = 0 ∨ k = 1 ∨ k = 2 ∨ k = 3 := by omega
          · (repeat' (first | walk1 | (dsimp only; walk1)))
            unfold Hold
            rename News _ _ _ _ => kN
            rename Fr _ _ _ _ => kF
            exact LCg.CompEnd.intro kF kN _ (fun p hp => .tail _ hp) off5 (.inr ⟨_, .head _, rfl, _, rfl⟩) ⟨rfl, by rw [take_snoc hk]; exact IntsAreSnoc hC2 _ _⟩
          · (repeat' (first | walk1 | (dsimp only; walk1)))
            unfold Hold
            rename News _ _ _ _ => kN
            rename Fr _ _ _ _ => kF
            exact LCg.CompEnd.intro kF kN _ (fun p hp => .tail _ hp) off5 (.inr ⟨_, .head _, rfl, _, rfl⟩) ⟨rfl, by rw [take_snoc hk]; exact IntsAreSnoc hC2 _ _⟩
          · (repeat' (first | walk1 | (dsimp only; walk1)))
            unfold Hold
            rename News _ _ _ _ => kN
            rename Fr _ _ _ _ => kF
            exact LCg.CompEnd.intro kF kN _ (fun p hp => .tail _ hp) off5 (.inr ⟨_, .head _, rfl, _, rfl⟩) ⟨rfl, by rw [take_snoc hk]; exact IntsAreSnoc hC2 _ _⟩
          · (repeat' (first | walk1 | (dsimp only; walk1)))
            unfold Hold
            rename News _ _ _ _ => kN
            rename Fr _ _ _ _ => kF
            exact LCg.CompEnd.intro kF kN _ (fun p hp => .tail _ hp) off5 (.inr ⟨_, .head _, rfl, _, rfl⟩) ⟨rfl, by rw [take_snoc hk]; exact IntsAreSnoc hC2 _ _⟩
        case fin2 =>
          intro ys2 hys2
          have hw : IntsAre ys2 ((selN [b0, b1, b2, b3] fi 4).map w8) := by
            have e : (selN [b0, b1, b2, b3] fi 4).take ys.toArray.size = selN [b0, b1, b2, b3] fi 4 := List.take_of_length_le (Nat.le_of_eq (by rw [List.size_toArray]; exact hys.length.symm))
            simp only [Nat.zero_add] at hys2
            rw [e] at hys2
            exact hys2
          clear hys2
          iterate 3 (first | walk1 | (dsimp only; walk1))
          (repeat (rename _ ∧ _ => hcj; cases hcj))
          iterate 1 (first | walk1 | (dsimp only; walk1))
          rename News _ _ _ _ => kN
          rename Fr _ _ _ _ => kF
          rename Obj.data _ = Data.cell _ => dW
          exact ⟨by trivial, _, _, _, _, _, _, _, rfl, fr_here kF (fun z hz => by simp only [if_neg hz]), fun p hp => kN p (.tail _ (.tail _ hp)), by assumption, dW⟩
    · rintro s' ⟨h2, tk2, uu, oM2, oW2, xW, tW, rfl, F4, N4, e4, e5⟩
      have hlen4 : vs.length ≤ 64 := Nat.le_trans (Nat.le_of_eq hi1.length) (hfl i)
      (repeat' (first | walk1 | (dsimp only; walk1)))
      unfold Hold
      refine rest_ind (fun j ys2 => IntsAre ys2 (((founds i).take j).map (fun one => Builtin.bitAnd one (worthI [b0, b1, b2, b3] fi)))) ?step3 ?fin3 _ 0 [] (by rfl) .nil
      case step3 =>
        intro j ys2 hj hC2 v I3 oI3 Cc3 oC3 D3 m3 h3 tk3 E3 hv hC3 hx3 F5 N5 off5 ne5
        obtain ⟨k, tv, rfl, hk⟩ := hi1.at j v (by simpa using hv)
        (repeat' (first | walk1 | (dsimp only; walk1)))
        unfold Hold
        exact LCg.CompEnd.intro F5 N5 _ (fun p hp => hp) off5 (.inr ⟨_, .tail _ (.head _), rfl, _, rfl⟩) ⟨rfl, by rw [and_snoc hk]; exact IntsAreSnoc hC2 _ _⟩
      case fin3 =>
        intro ys2 hys2
        have hw : IntsAre ys2 ((founds i).map (fun one => Builtin.bitAnd one (worthI [b0, b1, b2, b3] fi))) := by
          have e : (founds i).take vs.toArray.size = founds i := List.take_of_length_le (Nat.le_of_eq (by rw [List.size_toArray]; exact hi1.length.symm))
          simp only [Nat.zero_add] at hys2
          rw [e] at hys2
          exact hys2
        clear hys2
        iterate 1 (first | walk1 | (dsimp only; walk1))
        (repeat (rename _ ∧ _ => hcj; cases hcj))
        refine' kmk_add_ints (by assumption) (by assumption) (News.isList (by assumption) (.tail _ (.tail _ (.head _)))) (News.isList (by assumption) (.head _)) hi1 hw ?_ ?zz
        case zz => rw [List.length_map]; exact Nat.le_trans (Nat.add_le_add (hfl i) (hfl i)) (by decide)
        intro S9 us h9 F9 N9 l9 hI9
        (k_lt l9)
        iterate 4 (first | walk1 | (dsimp only; walk1))
        unfold Hold
        rename News _ _ _ _ => kN
        rename Fr _ _ _ _ => kF
        refine hrest _ _ _ _ _ TT kF (fun p hp => kN p ?_) ?_ (JSh.go (S := S9) (c := 0) ?_ e5 e4 (by rw [hfs i fi hfi]; exact hI9) ?_ ?_) B₂ X₂ T₂ D₂
        · rcases List.mem_cons.mp hp with h | hp
          · exact .tail _ (.tail _ (h ▸ .head _))
          rcases List.mem_cons.mp hp with h | hp
          · exact h ▸ .head _
          · exact .tail _ (.tail _ (.tail _ (.tail _ hp)))
        · have hq9 : ∀ p ∈ ((S9, listObj us 0) :: (L' + 1 + 1 + 1, oM2) :: (L' + 1 + 1, oW2) :: (L' + 1, oBits) :: (lf, listObj [.int f0 u0, .int f1 u1, .int f2 u2, .int f3 u3] nf) :: (lb, listObj [.int b0 t0, .int b1 t1, .int b2 t2, .int b3 t3] nb) :: [(a1, o1), (a2, o2), (a3, o3), (a4, o4), (a5, o5)] : List (Addr × Obj)), @Ne Nat p.1 I := by
            simp only [List.forall_mem_cons]
            refine ⟨?_, q2, q3, q4, q5, q6, q7, q8, q9, q10, q11, fun _ h => absurd h List.not_mem_nil⟩
            omega
          exact hq9
        · refine ⟨by omega, by omega, ?_⟩
          simp only [List.forall_mem_cons]
          refine ⟨by omega, by omega, by omega, by omega, by omega, by omega, by omega, by omega, fun _ h => absurd h List.not_mem_nil⟩
        · with_unfolding_all rfl
        · intro z z1 z2
          simp only [if_neg z1, if_neg z2]
  case done =>
    intro g2 m2 h tk news' hJ TT F₂ N₂ B₂ X₂ T₂ D₂
    obtain ⟨S, vs, c, oM, oW, xM, xW, u, rfl, ⟨hl1, hl2, hl3⟩, h1, h2, hi1, rfl⟩ := hJ
    simp only [List.forall_mem_cons] at hl3
    obtain ⟨r4, r5, r6, r7, r8, r9, r10, r11, _⟩ := hl3
    dsimp only
    (repeat' (first | walk1 | (dsimp only; walk1)))
    unfold Hold
    refine owit_for ?_ (by intro _; rfl) (by passes_own)
    (repeat' (first | walk1 | (dsimp only; walk1)))
    rename Fr _ _ _ _ => F₃
    rename News _ _ _ _ => N₃
    rename IsRange _ _ _ _ _ _ _ _ => hrg
    obtain ⟨aT, m₃, F₃, hmt, hmf, N₃, k1, k2, k3, k4, k5, k6, k7, k8, k9, k10, k11⟩ : ∃ aT m₃, Fr g2 L' _ m₃ ∧ m₃ (PySem.Str.ofString "told") = some (.ref aT) ∧ m₃ (PySem.Str.ofString "found") = some (.ref S) ∧ News g2 L' _ [(aT, listObj [] 0), (S, listObj vs c), (L' + 1 + 1 + 1, oM), (L' + 1 + 1, oW), (L' + 1, oBits), (lf, listObj [.int f0 u0, .int f1 u1, .int f2 u2, .int f3 u3] nf), (lb, listObj [.int b0 t0, .int b1 t1, .int b2 t2, .int b3 t3] nb), (a1, o1), (a2, o2), (a3, o3), (a4, o4), (a5, o5)] ∧ @LT.lt Nat _ S aT ∧ @LT.lt Nat _ (L' + 1 + 1 + 1) aT ∧ @LT.lt Nat _ (L' + 1 + 1) aT ∧ @LT.lt Nat _ (L' + 1) aT ∧ @LT.lt Nat _ lf aT ∧ @LT.lt Nat _ lb aT ∧ @LT.lt Nat _ a1 aT ∧ @LT.lt Nat _ a2 aT ∧ @LT.lt Nat _ a3 aT ∧ @LT.lt Nat _ a4 aT ∧ @LT.lt Nat _ a5 aT :=
      ⟨_, _, F₃, by with_unfolding_all rfl, by with_unfolding_all rfl, N₃, by omega, by omega, by omega, by omega, by omega, by omega, by omega, by omega, by omega, by omega, by omega⟩
    replace F₃ := fr_cast (two_map hmt hmf) F₃
    have N₄ : News g2 L' _ ((aT, listObj [] 0) :: (L' + 1 + 1 + 1, oM) :: [(S, listObj vs c), (L' + 1 + 1, oW), (L' + 1, oBits), (lf, listObj [.int f0 u0, .int f1 u1, .int f2 u2, .int f3 u3] nf), (lb, listObj [.int b0 t0, .int b1 t1, .int b2 t2, .int b3 t3] nb), (a1, o1), (a2, o2), (a3, o3), (a4, o4), (a5, o5)]) := fun p hp => N₃ p (by
      rcases List.mem_cons.mp hp with h | hp
      · exact h ▸ .head _
      rcases List.mem_cons.mp hp with h | hp
      · exact h ▸ .tail _ (.tail _ (.head _))
      rcases List.mem_cons.mp hp with h | hp
      · exact h ▸ .tail _ (.head _)
      · exact .tail _ (.tail _ (.tail _ hp)))
    refine range_loop (n := 16) (JTl [(S, listObj vs c), (L' + 1 + 1, oW), (L' + 1, oBits), (lf, listObj [.int f0 u0, .int f1 u1, .int f2 u2, .int f3 u3] nf), (lb, listObj [.int b0 t0, .int b1 t1, .int b2 t2, .int b3 t3] nb), (a1, o1), (a2, o2), (a3, o3), (a4, o4), (a5, o5)] aT (L' + 1 + 1 + 1) tolds _) rfl (by k_asm) F₃ (by k_asm) N₄ (by k_asm) (by k_asm) hrg (by decide) (by decide) (by decide) ⟨[], 0, oM, xM, rfl, h1, by rw [ht0]; exact .nil, rfl⟩ ?turn2 ?done2
    case turn2 =>
      intro i tv g3 m4 h3 tk3 I o news4 rest hi4 hoff hJ TT3 F₄ N₄ B₄ X₄ T₄ D₄ hrest
      obtain ⟨vs2, c2, oM2, xM2, rfl, h5, hi2, rfl⟩ := hJ
      have hq : ∀ p ∈ ((aT, listObj vs2 c2) :: (L' + 1 + 1 + 1, oM2) :: [(S, listObj vs c), (L' + 1 + 1, oW), (L' + 1, oBits), (lf, listObj [.int f0 u0, .int f1 u1, .int f2 u2, .int f3 u3] nf), (lb, listObj [.int b0 t0, .int b1 t1, .int b2 t2, .int b3 t3] nb), (a1, o1), (a2, o2), (a3, o3), (a4, o4), (a5, o5)] : List (Addr × Obj)), @Ne Nat p.1 I := hoff
      simp only [List.forall_mem_cons] at hq
      obtain ⟨q1, q2, q3, q4, q5, q6, q7, q8, q9, q10, q11, q12, _⟩ := hq
      clear F₃ N₃
      (repeat' (first | walk1 | (dsimp only; walk1)))
      · unfold Hold
        rename List.any _ _ = true => hin
        refine rest_indT (fun j ys => IntsAre ys (tellN [b0, b1, b2, b3] i j)) ?stepA ?finA _ 0 [] (by rfl) .nil
        case stepA =>
          intro j ys hj hC v I2 oI2 Cc oC2 D2 m5 h6 tk2 E2 hv hC2 hx2 F6 N6 off4 ne4
          obtain ⟨tw, rfl⟩ := hv
          have hj4 : j < 4 := hj
          clear hj
          rcases j with _ | _ | _ | _ | j
          · (repeat' (first | walk1 | (dsimp only; walk1)))
            · unfold Hold
              rename News _ _ _ _ => kN
              rename Fr _ _ _ _ => kF
              rename _ = (1 : Int) => hc
              exact LCg.CompEnd.intro kF kN _ (fun p hp => .tail _ hp) off4 trivial ⟨rfl, by rw [tellN_yes (i := 0) hc]; exact IntsAreSnoc hC _ _⟩
            · unfold Hold
              rename News _ _ _ _ => kN
              rename Fr _ _ _ _ => kF
              rename _ ≠ (1 : Int) => hc
              exact LCg.CompEnd.intro kF kN _ (fun p hp => .tail _ hp) off4 trivial ⟨rfl, by rw [tellN_no (i := 0) hc]; exact hC⟩
          · (repeat' (first | walk1 | (dsimp only; walk1)))
            · unfold Hold
              rename News _ _ _ _ => kN
              rename Fr _ _ _ _ => kF
              rename _ = (1 : Int) => hc
              exact LCg.CompEnd.intro kF kN _ (fun p hp => .tail _ hp) off4 trivial ⟨rfl, by rw [tellN_yes (i := 1) hc]; exact IntsAreSnoc hC _ _⟩
            · unfold Hold
              rename News _ _ _ _ => kN
              rename Fr _ _ _ _ => kF
              rename _ ≠ (1 : Int) => hc
              exact LCg.CompEnd.intro kF kN _ (fun p hp => .tail _ hp) off4 trivial ⟨rfl, by rw [tellN_no (i := 1) hc]; exact hC⟩
          · (repeat' (first | walk1 | (dsimp only; walk1)))
            · unfold Hold
              rename News _ _ _ _ => kN
              rename Fr _ _ _ _ => kF
              rename _ = (1 : Int) => hc
              exact LCg.CompEnd.intro kF kN _ (fun p hp => .tail _ hp) off4 trivial ⟨rfl, by rw [tellN_yes (i := 2) hc]; exact IntsAreSnoc hC _ _⟩
            · unfold Hold
              rename News _ _ _ _ => kN
              rename Fr _ _ _ _ => kF
              rename _ ≠ (1 : Int) => hc
              exact LCg.CompEnd.intro kF kN _ (fun p hp => .tail _ hp) off4 trivial ⟨rfl, by rw [tellN_no (i := 2) hc]; exact hC⟩
          · (repeat' (first | walk1 | (dsimp only; walk1)))
            · unfold Hold
              rename News _ _ _ _ => kN
              rename Fr _ _ _ _ => kF
              rename _ = (1 : Int) => hc
              exact LCg.CompEnd.intro kF kN _ (fun p hp => .tail _ hp) off4 trivial ⟨rfl, by rw [tellN_yes (i := 3) hc]; exact IntsAreSnoc hC _ _⟩
            · unfold Hold
              rename News _ _ _ _ => kN
              rename Fr _ _ _ _ => kF
              rename _ ≠ (1 : Int) => hc
              exact LCg.CompEnd.intro kF kN _ (fun p hp => .tail _ hp) off4 trivial ⟨rfl, by rw [tellN_no (i := 3) hc]; exact hC⟩
          · omega
        case finA =>
          intro ys hys
          iterate 1 (first | walk1 | (dsimp only; walk1))
          (repeat (rename _ ∧ _ => hcj; cases hcj))
          (repeat' (first | walk1 | (dsimp only; walk1)))
          rename News _ _ _ _ => kN
          rename Fr _ _ _ _ => kF
          rename Obj.data _ = Data.cell _ => dW
          refine' append_K (its := vs2.toArray) (n := c2) kF kN ?k3 ?_ ?z9
          case z9 => rw [List.size_toArray, hi2.length]; exact Nat.le_trans (htl i) (by decide)
          case k3 => k_upd
          intro h9 F9 N9
          (repeat' (first | walk1 | (dsimp only; walk1)))
          unfold Hold
          rw [List.push_toArray] at N9
          have hw : ∀ t, IntsAre (vs2 ++ [.int ((tellN [b0, b1, b2, b3] i 4).sum) t]) (tolds (i + 1)) := fun t => by
            have hin' : ((founds 4).any fun x => x == (i : Int)) = true := hin
            rw [hts i hi4, if_pos hin']
            exact IntsAreSnoc hi2 _ _
          exact hrest _ _ _ _ _ TT3 F9 (fun p hp => N9 p (.tail _ hp)) (off_set2 hoff) ⟨_, c2 + 1, _, _, rfl, dW, hw _, rfl⟩ B₄ X₄ T₄ D₄
      · unfold Hold
        rename News _ _ _ _ => kN
        rename Fr _ _ _ _ => kF
        rename Obj.data _ = Data.cell _ => dW
        rename List.any _ _ = false => hin
        have hin' : ¬ (((founds 4).any fun x => x == (i : Int)) = true) := by
          rw [show (founds 4).any (fun x => x == (i : Int)) = false from hin]; nofun
        exact hrest _ _ _ _ _ TT3 kF kN (off_set2 hoff) ⟨vs2, c2, _, _, rfl, dW, by rw [hts i hi4, if_neg hin']; exact hi2, rfl⟩ B₄ X₄ T₄ D₄
    case done2 =>
      intro g3 m4 h3 tk3 news4 hJ TT3 F₄ N₄ B₄ X₄ T₄ D₄
      obtain ⟨vs2, c2, oM2, xM2, rfl, h5, hi2, rfl⟩ := hJ
      dsimp only
      clear F₃ N₃
      have TT9 := TT.trans TT3
      (repeat' (first | walk1 | (dsimp only; walk1)))
      rename News _ _ _ _ => kN
      refine hret aT vs2 c2 _ _ _ (by assumption) (by assumption) (fun p hp => kN p ?_) (by assumption) (by assumption) (by assumption) (by assumption) hi2
      rcases List.mem_cons.mp hp with h | hp
      · exact h ▸ .head _
      · exact .tail _ (.tail _ (.tail _ (.tail _ (.tail _ (.tail _ (.tail _ hp))))))
  all_goals exact default
end
local macro_rules | `(tactic| walk_at "call builtin:sum") => `(tactic| (k_here; (with_reducible show wpAny _ _ (call (Value.builtin "sum") [Value.ref _]) _ _ _); k_dflt (refine' sum_pick ?k0 ?k1 ?k2 ?k3 ?k4 ?_; (case k0 => exact rfl); (case k1 => k_asm); (case k2 => k_asm); (case k3 => k_mem); (case k4 => assumption); k_whole); intro h' tk' t' F' N'; (try dsimp only)))
local macro_rules | `(tactic| walk_at "call ref") => `(tactic| (k_here; (with_reducible show wpAny _ _ (call (Value.ref 79) _) _ _ _); refine Hold.mk ?_))
local macro_rules | `(tactic| walk_at "call ref") => `(tactic| (k_here; (with_reducible show wpAny _ _ (call (Value.ref 91) _) _ _ _); refine Hold.mk ?_))
local macro_rules | `(tactic| kla_enter) => `(tactic| (refine' kla_codeT ?k1 ?k2 ?k3 ?k4 ?k5 ?xb ?tb ?dd ?t0 ?kA ?kF ?kK ?k6 ?k7 ?k8 ?k9 ?kB ?_ ?c2 ?c3 ?c4 ?c5; (case kA => exact rfl); (case kF => exact rfl); (case kK => first | exact rfl | assumption); (case k1 => k_asm); (case k2 => k_asm); (case k3 => k_asm); (case k4 => k_asm); (case k5 => k_asm); (case xb => assumption); (case tb => assumption); (case dd => assumption); (case t0 => first | assumption | exact KtsTurn.refl); (case k6 => k_mem); (case k7 => exact codeRec_news (by k_asm) (by k_mem) (by assumption) (by assumption)); (case k8 => k_room); (case k9 => exact rfl); (case c5 => decide); (case kB => exact locs rfl); (case c2 => exact rfl); (case c3 => exact rfl); (case c4 => exact rfl); k_whole; intro g' L' h' FG' F' N' B' X' T' D' l1; (try (replace l1 := allLt_of l1; simp only [AllLt, and_true] at l1)); (try dsimp only); (try k_lift B'); (try k_fold)))
local macro_rules | `(tactic| k_ne) => `(tactic| (refine neN ?_; (try dsimp only); first | assumption | (refine Ne.symm ?_; assumption) | omega))
local macro_rules | `(tactic| walk_at "call ref") => `(tactic| (k_here; (with_reducible show wpAny _ _ (call (Value.ref 86) _) _ _ _); refine Hold.mk ?_))
local macro_rules | `(tactic| walk_at "subscriptTail Name UnaryOp ref int") => `(tactic| (k_here; refine Hold.mk ?_))
local macro_rules | `(tactic| walk_at "binaryOp Add ref ref") => `(tactic| (k_here; refine Hold.mk ?_))
local macro_rules | `(tactic| walk_at "no such key") => `(tactic| skip)
theorem news_front9 {h₀ h : Heap} {L : Addr} {e1 e2 e3 e4 e5 e6 e7 e8 e9 e10 : Addr × Obj} (N : News h₀ L h [e1, e2, e3, e4, e5, e6, e7, e8, e9, e10]) : News h₀ L h (e9 :: [e1, e2, e3, e4, e5, e6, e7, e8, e10]) := fun p hp => N p (by
  simp only [List.mem_cons, List.not_mem_nil, or_false] at hp ⊢
  rcases hp with h | h | h | h | h | h | h | h | h | h <;> simp only [h, true_or, or_true])
theorem news_pickS {h₀ h : Heap} {L : Addr} {e0 e1 e2 e3 e4 e5 e6 e7 e8 e9 e10 e11 e12 e13 e14 e15 : Addr × Obj} (N : News h₀ L h [e0, e1, e2, e3, e4, e5, e6, e7, e8, e9, e10, e11, e12, e13, e14, e15]) : News h₀ L h [e8, e7, e0, e6, e15, e5, e3] := fun p hp => by
  rcases List.mem_cons.mp hp with rfl | hp
  · exact N _ (.tail _ (.tail _ (.tail _ (.tail _ (.tail _ (.tail _ (.tail _ (.tail _ (.head _)))))))))
  rcases List.mem_cons.mp hp with rfl | hp
  · exact N _ (.tail _ (.tail _ (.tail _ (.tail _ (.tail _ (.tail _ (.tail _ (.head _))))))))
  rcases List.mem_cons.mp hp with rfl | hp
  · exact N _ (.head _)
  rcases List.mem_cons.mp hp with rfl | hp
  · exact N _ (.tail _ (.tail _ (.tail _ (.tail _ (.tail _ (.tail _ (.head _)))))))
  rcases List.mem_cons.mp hp with rfl | hp
  · exact N _ (.tail _ (.tail _ (.tail _ (.tail _ (.tail _ (.tail _ (.tail _ (.tail _ (.tail _ (.tail _ (.tail _ (.tail _ (.tail _ (.tail _ (.tail _ (.head _))))))))))))))))
  rcases List.mem_cons.mp hp with rfl | hp
  · exact N _ (.tail _ (.tail _ (.tail _ (.tail _ (.tail _ (.head _))))))
  rcases List.mem_cons.mp hp with rfl | hp
  · exact N _ (.tail _ (.tail _ (.tail _ (.head _))))
  exact absurd hp List.not_mem_nil
theorem fr_base {g h₀ h : Heap} {L : Addr} {m : Str → Option Value} (F : Fr h₀ L h m) (st : ∀ b o, g.get? b = some o → h₀.get? b = some o) (hs : g.objs.size ≤ L) : Fr g L h m := ⟨F.ns, fun b o e => F.keep b o (st b o e), hs⟩
theorem law_holds : PySem.Challenge.rw_il0043_01.Holds := by
  refine hd ?_
  w_strict (k_go0; (all_goals try k_fold); k_steps)
  w_top off
  unfold Hold
  rename IntsAre _ (List.map _ _) => hB
  obtain ⟨tt9, ht9, b0, b1, b2, b3, tb0, tb1, tb2, tb3, rfl, hbT, ⟨hb0, hb1, hb2, hb3⟩, hc0, hc1, hc2, hc3⟩ := bits_form hB (fun k => rfl)
  clear hB
  rename IntsAre _ (List.map _ _) => hF
  obtain ⟨f0, f1, f2, f3, tf0, tf1, tf2, tf3, rfl, hf0⟩ := files_form hF
  clear hF
  have hif : IntsAre [.int f0 tf0, .int f1 tf1, .int f2 tf2, .int f3 tf3] [f0, f1, f2, f3] := .cons _ _ (.cons _ _ (.cons _ _ (.cons _ _ .nil)))
  have hib : IntsAre [.int b0 tb0, .int b1 tb1, .int b2 tb2, .int b3 tb3] [b0, b1, b2, b3] := .cons _ _ (.cons _ _ (.cons _ _ (.cons _ _ .nil)))
  rename Fr _ _ _ _ => kF
  rename News _ _ _ _ => kN
  rename LtT _ _ => hT
  refine' c_full_first _ _ _ _ _ _ _ _ _ _ _ _ _ _ _ _ _ _ _ _ _ _ _ _ _ _ _ _ _ ?B kF ?X (news_front9 kN) ?T ?K ?XB ?TB ?D ?T0 ?C ?off (.tail _ (.head _)) hif ?lenf (.head _) hib ?lenb ?dp ?ret
  case B => k_asm
  case X => k_asm
  case T => k_asm
  case K => rfl
  case XB => k_asm
  case TB => k_asm
  case D => exact fun b hb => absurd hb List.not_mem_nil
  case T0 => exact KtsTurn.refl
  case C => assumption
  case off =>
    show ∀ p : Addr × Obj, p ∈ _ → @Ne Nat p.1 76
    simp only [List.forall_mem_cons]
    (repeat (rename _ ∧ _ => hcj; cases hcj))
    refine ⟨?_, ?_, ?_, ?_, ?_, ?_, ?_, ?_, ?_, fun _ h => absurd h List.not_mem_nil⟩
    all_goals first | (refine Ne.symm ?_; assumption) | omega
  case lenf => exact Nat.le_of_eq (by rfl)
  case lenb => exact Nat.le_of_eq (by rfl)
  case dp => ktr_room
  case ret =>
    intro t h₀' h' tk' c' oc vs tq hoc hvs hlt TT F' N' B' X' T' D'
    clear kF kN
    (repeat (rename _ ∧ _ => hcj; cases hcj))
    replace hlt := allLt_of hlt
    simp only [AllLt, and_true] at hlt
    (repeat (rename _ ∧ _ => hcj; cases hcj))
    rename CodeHd _ _ _ => hC2
    dsimp only at hC2
    (repeat' (first | walk1 | (dsimp only; walk1)))
    unfold Hold
    rename Fr _ _ _ _ => kF
    rename News _ _ _ _ => kN
    rename Below _ _ _ _ => kB
    rename Frag.In _ h₀' => kX
    rename Top _ _ _ _ _ h₀' => kT
    rename KtsDicts _ _ => kD
    rename KtsTurn _ _ _ => kTT
    rename IsRange _ _ 0 16 1 _ _ _ => rg
    revert kF
    rename Fr _ _ _ _ => kF0
    intro kF
    replace kN := news_range kF0 kN rg
    clear kF0
    obtain ⟨m₁, kF1⟩ : ∃ m₁, Fr h₀' _ _ m₁ := ⟨_, kF⟩
    clear kF
    have kF := kF1
    clear kF1
    refine' c_reduce2 _ _ _ _ _ _ _ _ _ _ _ _ _ _ _ _ _ _ _ _ _ _ _ _ _ _ [] _ _ _ _ _ 11 (growI [f0, f1, f2, f3] [b0, b1, b2, b3]) (rowsI [f0, f1, f2, f3] [b0, b1, b2, b3]) _ kB kF kX kN kT ?hk ?XB ?TB kD KtsTurn.refl (.head _) (.tail _ (.head _)) (.tail _ (.tail _ (.tail _ (.head _)))) (.cons _ _ .nil) ?hne ?hrl ?hstep ?hfn (SubL.refl _) ?hdp ?hRo ?hret
    case hk => exact rfl
    case XB => k_asm
    case TB => k_asm
    case hne => exact rowsI_ne _ _
    case hrl =>
      rw [hbT]
      exact rowsI_len ht9 hf0
    case hstep => exact fun _ => rfl
    case hdp => ktr_room
    case hRo => refine neN ?_; omega
    case hfn =>
      clear kF kD kTT
      intro dp un gd cn cs a ccd cl outer A₀ g₀ h₁ L m s Q E news' R vs c row x tx B F X N T hk hd D T0 hsub hR hi hne hrl hret9
      have N2 := news_both (l₁ := [_]) (fun p hp => N p (List.mem_singleton.mp hp ▸ hR)) (news_both (fun p hp => N p (hsub p hp)) N)
      simp only [List.cons_append, List.nil_append] at N2
      clear N kN
      refine wpAny_call ?_
      k_dflt kla_enter
      k_steps
      unfold Hold
      rename News _ _ _ _ => kN
      refine k_last kN (.head _) hi hne ?_
      intro tl
      k_steps
      unfold Hold
      refine' c_step _ _ _ _ _ _ _ _ _ _ _ _ _ _ _ _ _ _ _ _ _ _ _ _ _ _ _ _ _ _ _ _ _ _ _ _ _ _ _ ?B ?F ?X kN ?T ?hk ?XB ?TB ?D KtsTurn.refl ?hC (.tail _ (.tail _ (.tail _ (.tail _ (.tail _ (.tail _ (.head _))))))) (.tail _ (.tail _ (.tail _ (.tail _ (.tail _ (.head _)))))) hoc hvs (.tail _ (.tail _ (.tail _ (.tail _ (.tail _ (.tail _ (.tail _ (.tail _ (.head _))))))))) hif (Nat.le_of_eq (by rfl)) (.tail _ (.tail _ (.tail _ (.tail _ (.tail _ (.tail _ (.tail _ (.head _)))))))) hib (Nat.le_of_eq (by rfl)) ?hdp ?hret2
      case B => k_asm
      case F => k_asm
      case X => k_asm
      case T => k_asm
      case hk => exact rfl
      case XB => k_asm
      case TB => k_asm
      case D => k_asm
      case hC => assumption
      case hdp => ktr_room
      case hret2 =>
        intro S acc cS h₂ hh2 tk2 TT2 F2 N2 l2 B2 X2 T2 D2 hacc
        clear kN
        refine k_cat F2 N2 (.tail _ (.head _)) (.head _) hi hacc ?hz ?hret3
        case hz =>
          have := stepI_len [f0, f1, f2, f3] [b0, b1, b2, b3] (row.getLastD 0)
          refine Nat.le_trans (m := 65) (by omega) (by decide)
        case hret3 =>
          intro D5 us h5 F5 N5 l5 hus
          clear F2 N2
          refine LeaveT.intro F5 N5 TT2 fun h₉ T9 F9 N9 B9 X9 Q9 D9 => ?_
          refine hret9 D5 us 0 h₉ _ _ T9 F9 (fun p hp => N9 p ?n1) (fun p hp => l5 p ?n2) B9 X9 Q9 D9 hus
          case n1 =>
            rcases List.mem_cons.mp hp with h | hp
            · rw [h]; exact .head _
            · simp only [List.mem_cons]; simp only [hp, or_true]
          case n2 => simp only [List.mem_cons]; simp only [hp, or_true]
    case hret =>
      intro R vs9 c9 h₉ h8 tk8 T9 F9 N9 B9 X9 Q9 D9 hi9
      clear kN kF kB kX kT kD kTT
      k_steps
      unfold Hold
      rename Fr _ _ _ _ => kF
      rename News _ _ _ _ => kN
      refine' c_shared _ _ _ _ _ _ _ _ _ _ _ _ _ _ _ _ _ _ _ _ _ _ _ _ _ _ _ _ _ _ _ _ _ _ _ _ _ _ _ _ _ _ _ _ _ _ _ _ B9 kF X9 (news_pickS kN) Q9 ?hk ?XB ?TB D9 KtsTurn.refl hb0 hb1 hb2 hb3 hc0 hc1 hc2 hc3 ?hdp (foundsI [b0, b1, b2, b3] [f0, f1, f2, f3]) rfl (toldsI [b0, b1, b2, b3] [f0, f1, f2, f3]) rfl (toldsI_len _ _) (toldsI_succ _ _) (foundsI_len _ _ (Nat.le_of_eq (by rfl))) (foundsI_succ _ _) ?hret4
      case hk => exact rfl
      case XB => k_asm
      case TB => k_asm
      case hdp => ktr_room
      case hret4 =>
        intro S acc cS h₂ hh2 tk2 T2 F2 N2 B2 X2 Q2 D2 hacc
        clear kN kF
        k_steps
        have e9 : rowsI [f0, f1, f2, f3] [b0, b1, b2, b3] 16 = toldsI [b0, b1, b2, b3] [f0, f1, f2, f3] 16 := by
          rw [hbT]
          exact plain_law ht9 (Nat.le_of_eq (by rfl)) hf0
        rw [decide_eq_true e9]
        have F8 := fr_base F2 B2.stays (Nat.le_of_eq (hideAll_size _ _))
        refine goodW_bool F8 (by assumption) (raisesW_false ?_) ?_
        · wrow_none_raised
        · kc_post
  all_goals exact default
end Mine
set_option maxRecDepth 100000 in
set_option maxHeartbeats 8000000 in
theorem PySem.Challenge.cw_il0043_01_holds : PySem.Challenge.rw_il0043_01.Holds :=
  Mine.law_holds
