import PyProof.Rows.All
import Wide.All
import OpenK.AllK
import Wide.FinOn
import PyProof.DictIter
import PyProof.DictWalks
import PyProof.SetRoads
import PyProof.ListIndexOut
import PyProof.Rows.ExtendIn
import PyProof.Draws
import PyProof.EnumMake
import KE.BitLaws
import Lean
import PySem.Challenge.RW_il0165_01
set_option Elab.async false
set_option linter.all false
set_option compiler.extract_closed false
set_option genSizeOfSpec false
set_option genInjectivity false
namespace Mine
noncomputable section
section
open PySem PySem.W PyProof.Rows PySem.Spec PySem.Calls Builtin Builtin.ObjectAttr
set_option maxRecDepth 100000
set_option maxHeartbeats 2000000
theorem lk_list_con : typeLookup (.type "list") "__contains__" = pure (some (.builtin "list.__contains__")) := by rw [typeLookup_type, builtinLookup_eq_fast]; kernel_rfl
theorem lk_list_gat : typeLookup (.type "list") "__getattr__" = pure none := by rw [typeLookup_type, builtinLookup_eq_fast]; kernel_rfl
theorem ty_list_con : typeOf (.builtin "list.__contains__") = pure (.type "wrapper_descriptor") := by show builtinType _ = _; rw [builtinType_eq_fast]; kernel_rfl
theorem lk_wd_set : typeLookup (.type "wrapper_descriptor") "__set__" = pure none := by rw [typeLookup_type, builtinLookup_eq_fast]; kernel_rfl
theorem lk_wd_del : typeLookup (.type "wrapper_descriptor") "__delete__" = pure none := by rw [typeLookup_type, builtinLookup_eq_fast]; kernel_rfl
theorem slot_wd_get : Slot "wrapper_descriptor" "__get__" "wrapper_descriptor.__get__" :=
  .of (owner := "wrapper_descriptor") (n := "__get__") (by rw [typeLookup_type, builtinLookup_eq_fast]; kernel_rfl) (by decide +kernel) (by decide +kernel) (by decide +kernel)
    (by first | exact .inl (by decide +kernel) | exact .inr (by decide +kernel)) (by rw [isSubtype_type]; kernel_rfl)
theorem entry_wd_get : entryFor table "wrapper_descriptor.__get__" = some Builtin.«wrapper_descriptor.__get__» := entryFor_of_tree (by kernel_rfl)
theorem args_wd_get (a b c : Value) : argsOk "wrapper_descriptor.__get__" ⟨[a, b, c], []⟩ := by unfold argsOk; kernel_rfl
theorem owner_con : ".".intercalate ("list.__contains__".cutAt '.').dropLast = "list" := by decide +kernel
theorem sub_con : isSubtype (.type "list") (.type (".".intercalate ("list.__contains__".cutAt '.').dropLast)) = pure true := by
  rw [owner_con, isSubtype_type]; kernel_rfl

abbrev mwObj (l : Addr) : Obj := { cls := .type "method-wrapper", data := .fields #[.builtin "list.__contains__", .ref l] }
section
variable {prog : Program} {w : World} {A : Around} {E : Value → Shared → Prop} {h : Heap} {g : Array GenState} {d : Drawn} {t : Nat} {os : OsState} {a : Addr} {o : Obj}
theorem con_get {R : Result → Shared → Prop} (hx : h.get? a = some o) (hc : o.cls = .type "list") (hq : R (.ok (.ret (.ref h.objs.size))) ⟨h.push (mwObj a), g, d, t, os⟩) :
    codeAny (model prog w) A (.call (.builtin "wrapper_descriptor.__get__") ⟨[.builtin "list.__contains__", .ref a, .type "list"], []⟩) R ⟨h, g, d, t, os⟩ := by
  have hT : (⟨h, g, d, t, os⟩ : Shared).TypeIs (.ref a) "list" := ⟨_, hx, hc⟩
  have hT5 : (⟨h, g, d, t, os⟩ : Shared).TypeIs (.builtin "list.__contains__") "wrapper_descriptor" := ty_list_con
  have f8 := sub_con
  refine codeAny_call_builtin slot_wd_get.plain entry_wd_get (slot_wd_get.check _ _ _ _ _ _ _ _ hT5 (args_wd_get _ _ _) ?_)
  repeat (any_goals (first | assumption | wp_step))
theorem con_entry {tk : Tok} {Q : Fin → Shared → Prop} (hx : h.get? a = some o) (hc : o.cls = .type "list") (hd : o.dict = none) (hdat : ∃ xs n, o.data = .seq xs n) (hq : Q (.done (.ret (.ref h.objs.size))) ⟨h.push (mwObj a), g, d, t, os⟩) :
    wpAny (model prog w) A (Builtin.«object.__getattribute__» ⟨[.ref a, .str "__contains__" tk], []⟩) Q E ⟨h, g, d, t, os⟩ := by
  have hT : (⟨h, g, d, t, os⟩ : Shared).TypeIs (.ref a) "list" := ⟨_, hx, hc⟩
  have hT5 : (⟨h, g, d, t, os⟩ : Shared).TypeIs (.builtin "list.__contains__") "wrapper_descriptor" := ty_list_con
  have f4 := lk_list_con
  have f5 := ty_list_con
  have f6 := slot_wd_get.lookup
  have f7 := lk_wd_set
  have f8 := lk_wd_del
  obtain ⟨oc, od, oda, osl⟩ := o
  obtain ⟨xs, n, rfl⟩ := hdat
  dsimp only at hc hd
  subst hc hd
  repeat (any_goals (first | assumption | wp_step))
  refine con_get hx rfl ?_
  repeat (any_goals (first | assumption | wp_step))
end
section
variable {prog : Program} {w : World} {A : Around} {E : Value → Shared → Prop} {s : Shared} 
theorem ga_contains {l : Addr} {items : Array Value} {n : Nat} {expr : Bool} {Q : Value → Shared → Prop} (hl : s.heap.get? l = some ⟨.type "list", none, .seq items n, #[]⟩)
    (h : Q (.ref s.heap.objs.size) { s with heap := s.heap.push (mwObj l), toks := s.toks + 1 }) :
    wpAny (model prog w) A (getAttr (.ref l) "__contains__" expr) Q E s := by
  obtain ⟨hh, g, d, tk, os⟩ := s
  dsimp only at hl h
  have hT : (⟨hh, g, d, tk+1, os⟩ : Shared).TypeIs (.ref l) "list" := ⟨_, hl, rfl⟩
  have f2 := F.slot_list_getattribute.lookup
  have f3 := F.slot_list_getattribute.bind (.ref l)
  have g2 := lk_list_gat
  repeat (any_goals (first | assumption | wp_step))
  have e0 : (expr && onTheHeap (Value.builtin "list.__getattribute__")) = false := by cases expr <;> rfl
  rw [e0]
  simp only [Bool.false_eq_true, if_false]
  repeat (any_goals (first | assumption | wp_step))
  refine codeAny_call_builtin F.slot_list_getattribute.plain F.entry_list_ga (F.slot_list_getattribute.check _ _ _ _ _ _ _ _ hT (F.args_list_getattribute_2 _ _) (con_entry hl rfl rfl ⟨_, _, rfl⟩ ?_))
  repeat (any_goals (first | assumption | wp_step))

theorem ga_contains_K {h₀ : Heap} {L l : Addr} {m : Str → Option Value} {news : List (Addr × Obj)} {items : Array Value} {n : Nat} {expr : Bool} {Q : Value → Shared → Prop} (F : Fr h₀ L s.heap m) (N : News h₀ L s.heap news)
    (hm : (l, (⟨.type "list", none, .seq items n, #[]⟩ : Obj)) ∈ news) (h : ∀ q h', Fr h₀ L h' m → News h₀ L h' ((q, mwObj l) :: news) → (∀ p ∈ news, p.1 < q) → Q (.ref q) { s with heap := h', toks := s.toks + 1 }) :
    wpAny (model prog w) A (getAttr (.ref l) "__contains__" expr) Q E s :=
  ga_contains (N _ hm).1 (h s.heap.objs.size _ (F.push _) (N.push F _) fun p hp => Heap.lt_size (N p hp).1)
end
end
section
open PySem PySem.W PyProof.Rows PySem.Spec PySem.Calls Builtin Builtin.ObjectAttr
set_option maxRecDepth 100000
set_option maxHeartbeats 2000000
def top : List (Addr × Obj) → Nat
  | [] => 0
  | p :: r => Nat.max (p.1 + 1) (top r)
theorem allLt_iff {d : Addr} {l : List (Addr × Obj)} : AllLt d l ↔ @LE.le Nat instLENat (top l) d := by
  induction l with
  | nil => exact ⟨fun _ => Nat.zero_le _, fun _ => trivial⟩
  | cons p r ih =>
    unfold AllLt top
    rw [ih]
    exact Nat.max_le.symm
theorem ne_of_top {x : Addr} {l : List (Addr × Obj)} (h : @LE.le Nat instLENat (top l) x) : ∀ p ∈ l, p.1 ≠ x := by
  induction l with
  | nil => intro p hp; cases hp
  | cons q r ih =>
    unfold top at h
    have h' := Nat.max_le.mp h
    intro p hp
    rcases List.mem_cons.mp hp with rfl | hp
    · exact Nat.ne_of_lt h'.1
    · exact ih h'.2 p hp
abbrev liObj (l : Addr) (i : Nat) : Obj := { cls := .type "list_iterator", data := .fields #[.ref l, .int i 0] }
section
variable {prog : Program} {w : World} {A : Around} {E : Value → Shared → Prop} {s : Shared} {h₀ : Heap} {L l it : Addr} {m : Str → Option Value} {news news' : List (Addr × Obj)} {items : Array Value} {i : Nat}
theorem iter_list_K {Q : Value → Shared → Prop} (F : Fr h₀ L s.heap m) (N : News h₀ L s.heap news) (hl : s.heap.IsList l items)
    (h : ∀ I h', Fr h₀ L h' m → News h₀ L h' ((I, liObj l 0) :: news) → (∀ p ∈ news, p.1 < I) → Q (.ref I) { s with heap := h' }) :
    wpAny (model prog w) A (call (.builtin "iter") [.ref l]) Q E s := by
  refine call_function_entry (by decide +kernel) (by decide +kernel) kdk_entry_iter (kdk_args_iter _) ?_
  unfold Builtin.«iter»
  refine wpAny_bind (m := someArgs "iter" 1 2 _) (wpAny_of_eq (a := [Value.ref l]) (by first | rfl | kernel_rfl!) ?_)
  show wpAny _ _ (pyIter (.ref l) >>= _) _ _ _
  refine wpAny_bind (wpAny_pyIter_list hl ?_)
  exact wpAny_pure ⟨_, rfl, h _ _ (F.push _) (News.push F N _ rfl) (fun q hq => Heap.lt_size (N q hq).1)⟩

theorem next_list_K {Q : Value → Shared → Prop} {x : Value} (F : Fr h₀ L s.heap m) (N : News h₀ L s.heap news) (U : Upd it (liObj l i) (liObj l (i + 1)) news news') (hl : s.heap.IsList l items) (hx : items[i]? = some x)
    (h : ∀ h', Fr h₀ L h' m → News h₀ L h' news' → Q x { s with heap := h' }) :
    wpAny (model prog w) A (call (.builtin "next") [.ref it]) Q E s := by
  obtain ⟨pre, post, e1, e2, a, b⟩ := U.split
  have hmem : (it, liObj l i) ∈ news := by rw [e1]; exact List.mem_append_right _ (.head _)
  have hm := N (it, liObj l i) hmem
  have hit : s.heap.IsListIter it l i := ⟨_, hm.1, rfl, rfl⟩
  obtain ⟨ol, hol, _, nl, hdl⟩ := hl
  refine call_function_entry (by decide +kernel) (by decide +kernel) kdk_entry_next (kdk_args_next _) ?_
  unfold Builtin.«next»
  refine wpAny_bind (m := someArgs "next" 1 2 _) (wpAny_of_eq (a := [Value.ref it]) (by first | rfl | kernel_rfl!) ?_)
  dsimp only
  refine wpAny_bind (wpAny_specialOf (name := Str.ofString "__next__") hit.typeIs slot_listiter_next.lookup ?_)
  refine wpAny_ite_split (fun hab => absurd hab (by decide)) (fun _ => ?_)
  refine wpAny_bind (wpAny_callSpecial?_slot (name := Str.ofString "__next__") hit.typeIs slot_listiter_next
    (wpAny_call_entry slot_listiter_next hit.typeIs entry_listiter_next ?_ (args_listiter_next _)))
  show wpAny _ _ (field (.ref it) 0 >>= _) _ _ s
  refine wpAny_bind (wpAny_field hm.1 rfl (x := .ref l) rfl ?_)
  show wpAny _ _ (if (Value.ref l == Value.none) = true then _ else _) _ _ s
  rw [if_neg (show ¬ ((Value.ref l == Value.none) = true) from Bool.false_ne_true)]
  show wpAny _ _ (field (.ref it) 1 >>= _) _ _ s
  refine wpAny_bind (wpAny_field hm.1 rfl (x := .int i 0) rfl ?_)
  show wpAny _ _ (seqItems? (.ref l) >>= _) _ _ s
  refine wpAny_bind (wpAny_seqItems hol hdl ?_)
  simp only [Int.toNat_natCast, hx]
  have U' := news_upd (f := Obj.mapFields (·.setIfInBounds 1 (rawInt ((i : Int) + 1)))) F (e1 ▸ N) a b (o' := liObj l (i + 1)) rfl rfl
  refine wpAny_bind (wpAny_setField hm.1 rfl (by simp) (wpAny_pure ⟨x, rfl, wpAny_pure ⟨_, rfl, h _ U'.1 (e2 ▸ U'.2)⟩⟩))

theorem next_end_K {Q : Value → Shared → Prop} (hh : A.handled = none) (F : Fr h₀ L s.heap m) (N : News h₀ L s.heap news) (U : Upd it (liObj l i) ({ cls := .type "list_iterator", data := .fields #[.none, .int i 0] }) news news') (hl : s.heap.IsList l items) (hx : items[i]? = none)
    (hE : ∀ h1 h' e, Fr h₀ L h1 m → News h₀ L h1 news' → Heap.NewExc h1 h' e "StopIteration" → E (.ref e) { s with heap := h' }) :
    wpAny (model prog w) A (call (.builtin "next") [.ref it]) Q E s := by
  obtain ⟨pre, post, e1, e2, a, b⟩ := U.split
  have hmem : (it, liObj l i) ∈ news := by rw [e1]; exact List.mem_append_right _ (.head _)
  have hm := N (it, liObj l i) hmem
  have hit : s.heap.IsListIter it l i := ⟨_, hm.1, rfl, rfl⟩
  obtain ⟨ol, hol, _, nl, hdl⟩ := hl
  refine call_function_entry (by decide +kernel) (by decide +kernel) kdk_entry_next (kdk_args_next _) ?_
  unfold Builtin.«next»
  refine wpAny_bind (m := someArgs "next" 1 2 _) (wpAny_of_eq (a := [Value.ref it]) (by first | rfl | kernel_rfl!) ?_)
  dsimp only
  refine wpAny_bind (wpAny_specialOf (name := Str.ofString "__next__") hit.typeIs slot_listiter_next.lookup ?_)
  refine wpAny_ite_split (fun hab => absurd hab (by decide)) (fun _ => ?_)
  refine wpAny_bind (wpAny_callSpecial?_slot (name := Str.ofString "__next__") hit.typeIs slot_listiter_next
    (wpAny_call_entry slot_listiter_next hit.typeIs entry_listiter_next ?_ (args_listiter_next _)))
  show wpAny _ _ (field (.ref it) 0 >>= _) _ _ s
  refine wpAny_bind (wpAny_field hm.1 rfl (x := .ref l) rfl ?_)
  show wpAny _ _ (if (Value.ref l == Value.none) = true then _ else _) _ _ s
  rw [if_neg (show ¬ ((Value.ref l == Value.none) = true) from Bool.false_ne_true)]
  show wpAny _ _ (field (.ref it) 1 >>= _) _ _ s
  refine wpAny_bind (wpAny_field hm.1 rfl (x := .int i 0) rfl ?_)
  show wpAny _ _ (seqItems? (.ref l) >>= _) _ _ s
  refine wpAny_bind (wpAny_seqItems hol hdl ?_)
  simp only [Int.toNat_natCast, hx]
  have U' := news_upd (f := Obj.mapFields (·.setIfInBounds 0 Value.none)) F (e1 ▸ N) a b (o' := { cls := .type "list_iterator", data := .fields #[.none, .int i 0] }) rfl rfl
  refine wpAny_bind (wpAny_rule (wpAny_bind (wpAny_setField hm.1 rfl (by simp) ?_)))
  show wpAny _ _ (newExc (.type "StopIteration") [] >>= _) _ _ _
  refine wpAny_bind ?_
  simp only [newExc, newTuple]
  refine wpAny_bind (wpAny_newObj_type ?_ (by size_fits))
  refine wpAny_bind (m := firstArgMember _ _) (wpAny_of_eq (a := Value.none) (by first | rfl | (simp only [firstArgMember]; rfl)) ?_)
  refine wpAny_newObj_type ?_ (by size_fits)
  simp only [raiseNew]
  refine wpAny_bind (wpAny_handled ?_)
  rw [show A.in1.in1.handled = none from hh]
  refine wpAny_bind (wpAny_pure (wpAny_throw ?_))
  refine hE _ _ _ U'.1 (e2 ▸ U'.2) ⟨fun b o e => ?_, ?_, ?_⟩
  · exact Heap.get?_push_of_some _ (Heap.get?_push_of_some _ e)
  · exact Heap.get?_none_of_le (by rw [Heap.size_push]; exact Nat.le_succ _)
  · exact ⟨_, _, Heap.get?_push_size _ rfl, rfl, rfl⟩
end
end
section
open PySem PySem.W PyProof.Rows PySem.Spec PySem.Calls Builtin Builtin.ObjectAttr
set_option maxRecDepth 100000
set_option maxHeartbeats 2000000
abbrev lobj (xs : Array Value) (c : Nat) : Obj := listOf xs c
section
variable {prog : Program} {w : World} {A : Around} {E : Value → Shared → Prop} {h₀ : Heap} {L S x : Addr} {m : Str → Option Value} {R : Result → Shared → Prop}

end
end
section
open PySem PySem.W PyProof.Rows PySem.Spec PySem.Calls Builtin Builtin.ObjectAttr
set_option maxRecDepth 100000
set_option maxHeartbeats 2000000
theorem check_con {l : Addr} {v : Value} : checkBoundCall "list.__contains__" ⟨[.ref l, v], []⟩ = pure () := by first | kernel_rfl | rfl
section
variable {prog : Program} {w : World} {A : Around} {E : Value → Shared → Prop} {s : Shared} {h₀ : Heap} {L q l : Addr} {m : Str → Option Value} {news : List (Addr × Obj)} {items : Array Value}
theorem mw_call {v : Value} {Q : Value → Shared → Prop} (e : Value → Bool) (he : ∀ y, y ∈ items → MeetsSeq.EqGives y v (e y)) (hq : s.heap.get? q = some (mwObj l)) (hl : s.heap.IsList l items) (h : Q (.bool (items.any e)) s) :
    wpAny (model prog w) A (call (.ref q) [v]) Q E s := by
  obtain ⟨⟨cls, dd, data, sl⟩, ho, hc, n, hd⟩ := id hl
  simp only at hc hd
  subst hc hd
  obtain ⟨hh, g, d, tk, os⟩ := s
  dsimp only at ho hq h
  refine wpAny_call (codeAny_of_tree ?_)
  show wpAny _ _ (callAny (.ref q) _) _ _ _
  refine nd_load hq ?_
  dsimp only
  show wpAny _ _ (checkBoundCall "list.__contains__" ⟨[.ref l, v], []⟩ >>= fun _ => again (.builtin "list.__contains__" ⟨[.ref l, v], []⟩)) _ _ _
  rw [check_con]
  refine wpAny_pure ⟨Code.quiet_builtin _ (by decide +kernel), codeAny_builtin PySem.F.entry_list_contains ?_⟩
  exact SeqInW.list_containsW l items n dd sl v e he _ _ _ _ _ ⟨ho, h⟩

def eqI (n : Int) : Value → Bool
  | .int a _ => a == n
  | _ => false
theorem eqI_gives {vs : List Value} {ns : List Int} (hi : IntsAre vs ns) (n : Int) (t : Tok) : ∀ y, y ∈ vs.toArray → MeetsSeq.EqGives y (.int n t) (eqI n y) := by
  induction hi with
  | nil => intro y hy; simp at hy
  | cons a u _ ih =>
    intro y hy
    rcases List.mem_cons.mp (by simpa using hy) with rfl | hy
    · exact MeetsSeq.EqGives.int _ _ _ _
    · exact ih y (by simpa using hy)
theorem eqI_any {vs : List Value} {ns : List Int} (hi : IntsAre vs ns) (n : Int) : vs.toArray.any (eqI n) = ns.contains n := by
  rw [← Array.any_toList]
  show vs.any (eqI n) = _
  induction hi with
  | nil => rfl
  | cons a u _ ih =>
    rw [List.any_cons, List.contains_cons, ih]
    show (a == n || _) = (n == a || _)
    rw [Bool.beq_comm]
theorem mw_call_K {vs : List Value} {ns : List Int} {n : Int} {t : Tok} {c : Nat} {Q : Value → Shared → Prop} (N : News h₀ L s.heap news) (hq : (q, mwObj l) ∈ news) (hl : (l, listOf vs.toArray c) ∈ news) (hi : IntsAre vs ns) (h : Q (.bool (ns.contains n)) s) :
    wpAny (model prog w) A (call (.ref q) [.int n t]) Q E s :=
  mw_call (eqI n) (eqI_gives hi n t) (N _ hq).1 (News.isList N hl) (by rw [eqI_any hi]; exact h)
end
end
section
open PySem PySem.W PyProof.Rows PySem.Spec PySem.Calls Builtin Builtin.ObjectAttr
set_option maxRecDepth 100000
set_option maxHeartbeats 2000000
section
variable {prog : Program} {w : World} {A : Around} {E : Value → Shared → Prop} {h₀ : Heap} {L S x : Addr} {m : Str → Option Value} {R : Result → Shared → Prop}

theorem ext_loop_ownZ {res : Value} {ys : List Value} (led : Nat → List (Addr × Obj)) (ZE : Obj → Heap → Prop) (hsz : ys.length ≤ sizeLine) (hS : ∀ i, ∀ p ∈ led i, p.1 ≠ S)
    (hnext : ∀ i v, ys[i]? = some v → ∀ (s : Shared) (o : Obj) (Q : Option Value → Shared → Prop) (E : Value → Shared → Prop), Fr h₀ L s.heap m → News h₀ L s.heap ((S, o) :: led i) →
      (∀ h' tk, Fr h₀ L h' m → News h₀ L h' ((S, o) :: led (i + 1)) → Q (some v) { s with heap := h', toks := tk }) → wpAny (model prog w) A.in1 (pyNext (.ref x)) Q E s)
    (hdone : ∀ (s : Shared) (o : Obj) (Q : Option Value → Shared → Prop) (E : Value → Shared → Prop), Fr h₀ L s.heap m → News h₀ L s.heap ((S, o) :: led ys.length) →
      (∀ h' tk, ZE o h' → Q none { s with heap := h', toks := tk }) → wpAny (model prog w) A.in1 (pyNext (.ref x)) Q E s) :
    ∀ (k i : Nat) (s : Shared) (c : Nat), ys.length - i = k → i ≤ ys.length → Fr h₀ L s.heap m → News h₀ L s.heap ((S, lobj (ys.take i).toArray c) :: led i) →
    (∀ h' tk c', ZE (lobj ys.toArray c') h' → R (.ok (.ret res)) { s with heap := h', toks := tk }) →
    codeAny (model prog w) A (.builtin "list.extend.loop" ⟨[.ref S, .ref x, res], []⟩) R s := by
  intro k
  induction k with
  | zero =>
    intro i s c hk hi F N hR
    have hin : i = ys.length := by omega
    subst hin
    refine codeAny_builtin PySem.F.entry_extend_loop ?_
    rw [Around.under_plainId PySem.F.plain_extend_loop _]
    show wpAny _ A.in1 (pyNext (.ref x) >>= _) _ _ s
    refine wpAny_bind (hdone s _ _ _ F N fun h' tk Z => ?_)
    rw [List.take_length] at Z
    exact wpAny_pure (hR h' tk c Z)
  | succ k ih =>
    intro i s c hk hi F N hR
    have hlt : i < ys.length := by omega
    refine codeAny_builtin PySem.F.entry_extend_loop ?_
    rw [Around.under_plainId PySem.F.plain_extend_loop _]
    show wpAny _ A.in1 (pyNext (.ref x) >>= _) _ _ s
    refine wpAny_bind (hnext i ys[i] (by simp [hlt]) s _ _ _ F N fun h' tk F' N' => ?_)
    show wpAny _ A.in1 (updateSeq S (·.push ys[i]) >>= _) _ _ _
    have hSg := (N' _ (.head _)).1
    refine wpAny_bind ?_
    have U := news_upd (pre := []) (f := Obj.mapSeq (·.push ys[i])) (o' := lobj (ys.take (i + 1)).toArray (c + 1)) F' N' (fun _ h => nomatch h) (hS (i + 1)) (by
      show ({ cls := .type "list", dict := none, data := .seq ((ys.take i).toArray.push ys[i]) (if ((ys.take i).toArray.push ys[i]).size == (ys.take i).toArray.size then c else c + 1), slots := #[] } : Obj) = _
      rw [show (((ys.take i).toArray.push ys[i]).size == (ys.take i).toArray.size) = false from by rw [Array.size_push]; exact beq_eq_false_iff_ne.mpr (Nat.succ_ne_self _)]
      simp only [Bool.false_eq_true, if_false]
      rw [List.take_succ_eq_append_getElem hlt, List.push_toArray]) rfl
    refine wpAny_updateSeq hSg rfl (wpAny_pure ⟨plainId_quiet PySem.F.plain_extend_loop _, ih (i + 1) _ (c + 1) (by omega) hlt U.1 U.2 fun h'' tk' c' Z => ?_⟩)
      (by simp; omega) (by simp; omega)
    exact hR h'' tk' c' Z

theorem list_ownZ {s : Shared} {C : Addr} {ys : List Value} {Q : Value → Shared → Prop} {news : List (Addr × Obj)} (led : Addr → Nat → List (Addr × Obj)) (ZE : Addr → Obj → Heap → Prop) (hsz : ys.length ≤ sizeLine)
    (F : Fr h₀ L s.heap m) (N : News h₀ L s.heap news) (hxS : x < s.heap.objs.size)
    (hT : ∀ h, Fr h₀ L h m → News h₀ L h news → Looks (model prog w) h (typeOf (.ref x)) (.ref C))
    (hlen : ∀ h, Fr h₀ L h m → Looks (model prog w) h (typeLookup (.ref C) "__len__") none)
    (hhint : ∀ h, Fr h₀ L h m → Looks (model prog w) h (typeLookup (.ref C) "__length_hint__") none)
    (hiter : ∀ S (s : Shared) (o : Obj) (Q : Value → Shared → Prop) (E : Value → Shared → Prop), (∀ p ∈ news, p.1 < S) → Fr h₀ L s.heap m → News h₀ L s.heap ((S, o) :: news) →
      (∀ h' tk, Fr h₀ L h' m → News h₀ L h' ((S, o) :: led S 0) → (∀ p ∈ news, p ∈ led S 0) → Q (.ref x) { s with heap := h', toks := tk }) → wpAny (model prog w) A.in1.in1 (pyIter (.ref x)) Q E s)
    (hS : ∀ S, (∀ p ∈ news, p.1 < S) → ∀ i, ∀ p ∈ led S i, p.1 ≠ S)
    (hnext : ∀ S, (∀ p ∈ news, p.1 < S) → ∀ i v, ys[i]? = some v → ∀ (s : Shared) (o : Obj) (Q : Option Value → Shared → Prop) (E : Value → Shared → Prop), Fr h₀ L s.heap m → News h₀ L s.heap ((S, o) :: led S i) →
      (∀ h' tk, Fr h₀ L h' m → News h₀ L h' ((S, o) :: led S (i + 1)) → Q (some v) { s with heap := h', toks := tk }) → wpAny (model prog w) A.in1.in1 (pyNext (.ref x)) Q E s)
    (hdone : ∀ S, (∀ p ∈ news, p.1 < S) → ∀ (s : Shared) (o : Obj) (Q : Option Value → Shared → Prop) (E : Value → Shared → Prop), Fr h₀ L s.heap m → News h₀ L s.heap ((S, o) :: led S ys.length) →
      (∀ h' tk, ZE S o h' → Q none { s with heap := h', toks := tk }) → wpAny (model prog w) A.in1.in1 (pyNext (.ref x)) Q E s)
    (h : ∀ S h' tk c, (∀ p ∈ news, p.1 < S) → ZE S (lobj ys.toArray c) h' → Q (.ref S) { s with heap := h', toks := tk }) :
    wpAny (model prog w) A (call (.type "list") [.ref x]) Q E s := by
  refine callType_codes (Q₁ := fun obj s₁ => obj = .ref s.heap.objs.size ∧ s₁ = { s with heap := s.heap.push { cls := .type "list", data := .seq #[] } }) PySem.F.called_list (PySem.F.typeCall_list_1 _) PySem.F.entry_list_init
    (code_list_new _ ⟨rfl, rfl⟩) fun obj s₁ h₁ => ?_
  obtain ⟨rfl, rfl⟩ := h₁
  have F1 : Fr h₀ L (s.heap.push { cls := .type "list", data := .seq #[] }) m := F.push _
  have N1 := N.push F { cls := .type "list", data := .seq #[] }
  have lt : ∀ p ∈ news, p.1 < s.heap.objs.size := fun p hp => Heap.lt_size (N p hp).1
  generalize s.heap.objs.size = S at *
  generalize s.heap.push { cls := .type "list", data := .seq #[] } = H1 at *
  refine ⟨⟨_, (N1 _ (.head _)).1, rfl⟩, PySem.F.args_list_init_2 _ _, ?_⟩
  have nS : ∀ p ∈ news, p.1 ≠ S := fun p hp => Nat.ne_of_lt (lt p hp)
  show wpAny _ A.in1.in1 (do let old ← Builtin.List.listItems (.ref S); Builtin.List.listUpdate (.ref S) (fun _ => #[]); letGo old.toList.reverse; Builtin.List.listExtendWith (.ref S) (.ref x) .none) _ _ _
  refine wpAny_bind ?_
  unfold Builtin.List.listItems
  refine wpAny_bind (wpAny_seqItems (N1 _ (.head _)).1 rfl (wpAny_pure ?_))
  show wpAny _ A.in1.in1 (updateSeq S (fun _ => #[]) >>= fun _ => letGo (#[] : Array Value).toList.reverse >>= fun _ => Builtin.List.listExtendWith (.ref S) (.ref x) .none) _ _ _
  have U := news_upd (pre := []) (f := Obj.mapSeq (fun _ => (#[] : Array Value))) (o' := lobj #[] 0) F1 N1 (fun _ h => nomatch h) nS rfl rfl
  refine wpAny_bind (wpAny_updateSeq (N1 _ (.head _)).1 rfl ?_)
  obtain ⟨F2, N2⟩ := U
  dsimp only [List.nil_append] at N2
  generalize H1.update S (Obj.mapSeq (fun _ => (#[] : Array Value))) = H2 at *
  refine wpAny_bind (wpAny_letGo ?_)
  unfold Builtin.List.listExtendWith
  refine wpAny_bind ((hT H2 F2 (fun p hp => N2 p (.tail _ hp))).at ?_)
  have h1 : Builtin.List.listSameRef (.ref S) (.ref x) = false := by
    show (S == x) = false
    exact beq_eq_false_iff_ne.mpr (Nat.ne_of_gt hxS)
  have h2 : (Value.ref C == Value.type "list") = false := rfl
  have h3 : (Value.ref C == Value.type "tuple") = false := rfl
  simp only [h1, h2, h3, Bool.or_false, Bool.false_eq_true, if_false]
  refine wpAny_bind (hiter S _ _ _ _ lt F2 N2 fun h' tk F3 N3 hin => ?_)
  refine wpAny_bind (wpAny_holding ?_)
  unfold Builtin.List.listLengthHint
  have L0 := hT h' F3 (fun p hp => N3 p (.tail _ (hin p hp)))
  refine wpAny_bind (wpAny_bind (L0.at ((hlen h' F3).at ?_)))
  refine wpAny_bind (m := specialOf (Value.ref x) (Str.ofString "__length_hint__")) (wpAny_bind (L0.at ((hhint h' F3).at ?_)))
  refine wpAny_pure ?_
  show wpAny _ A.in1.in1 (rule "list.extend.makes-room" >>= fun _ => Builtin.List.listTouch (.ref S) >>= fun _ =>
    again (.builtin "list.extend.loop" ⟨[.ref S, .ref x, .none], []⟩)) _ _ _
  refine wpAny_bind (wpAny_rule ?_)
  refine wpAny_bind ?_
  show wpAny _ A.in1.in1 (updateSeq S (·.push .none) >>= fun _ => updateSeq S (·.pop)) _ _ _
  have U4 := news_upd (pre := []) (f := Obj.mapSeq (·.push Value.none)) (o' := lobj #[.none] 1) F3 N3 (fun _ h => nomatch h) (hS S lt 0) rfl rfl
  refine wpAny_bind (wpAny_updateSeq (N3 _ (.head _)).1 rfl ?_)
  obtain ⟨F4, N4⟩ := U4
  dsimp only [List.nil_append] at N4
  have U5 := news_upd (pre := []) (f := Obj.mapSeq (·.pop)) (o' := lobj #[] 2) F4 N4 (fun _ h => nomatch h) (hS S lt 0) rfl rfl
  refine wpAny_updateSeq (N4 _ (.head _)).1 rfl ?_
  obtain ⟨F5, N5⟩ := U5
  dsimp only [List.nil_append] at N5
  refine wpAny_pure ⟨plainId_quiet PySem.F.plain_extend_loop _, ?_⟩
  refine ext_loop_ownZ (led S) (ZE S) hsz (hS S lt) (hnext S lt) (hdone S lt) ys.length 0 _ 2 rfl (Nat.zero_le _) F5 N5 fun h6 tk6 c6 Z => ?_
  exact ⟨rfl, h S h6 tk6 c6 lt Z⟩
end
end
section
open PySem PySem.W PyProof.Rows
set_option maxRecDepth 100000
set_option maxHeartbeats 8000000
open PySem.Challenge in
def pick (l : List Stmt) : List Stmt := (l.drop 1).take 1 ++ ((l.drop 3).take 1 ++ ((l.drop 5).take 22 ++ ((l.drop 28).take 1 ++ l.drop 30)))
noncomputable def view : Program := { PySem.Challenge.rw_il0165_01.row.toRowW.prog with main := { PySem.Challenge.rw_il0165_01.row.toRowW.prog.main with body := pick PySem.Challenge.rw_il0165_01.row.toRowW.prog.main.body } }
theorem said : PySem.Challenge.rw_il0165_01.wellSaid = true := (congrFun PySem.W.Fast.te9446332074065402090 _).trans (by kernel_rfl)
local macro_rules | `(tactic| o_law) => `(tactic| refine holds_law said fun said => ?_)
open Lean in
local macro_rules | `(tactic| o_head $H) => do
  let (hl, hw, hc) := (mkIdent `hl, mkIdent `hw, mkIdent `hc)
  `(tactic| (refine holds_open (q := view) (loose := [Str.ofString "filterfalse", Str.ofString "_filemode_table"]) (Xt := fun s => xlAt view [] s && recOk (RowW.records (PySem.Challenge.rw_il0165_01.row.toRowW)) s) (XP := XL view []) (Yf := Hook.obs $H) (Ya := Hook.val $H) (YP := Hook.says $H) (N := 2406) ?$hl (Hook.of $H) (Hook.keeps $H) (fun s e => xl_of s (Bool.and_eq_true_iff.mp e).1) XL.keeps (by rfl) (by rfl) (by rfl) (fun s e => recFacts_of (Bool.and_eq_true_iff.mp e).2) (by rfl) (by assumption) (by decide +kernel) ⟨rfl, rfl, rfl, rfl, rfl, by decide +kernel⟩ ?$hw ?$hc; (case hl => intro w; delta openEnds topFrom fencedOpening; rw [PySem.W.Fast.te14082659384304107361, PySem.W.Fast.te10274390034422433532, PySem.W.Fast.te14364793385576792824, PySem.W.Fast.te4187177175401517315]; kernel_rfl)))
open_top hd01 for PySem.Challenge.rw_il0165_01
end
local macro_rules | `(tactic| k_all) => `(tactic| (refine ne_of_top ?_; (try simp only [allLt_iff] at *); omega))
local macro_rules | `(tactic| k_mem) => `(tactic| assumption)
local macro_rules | `(tactic| k_room) => `(tactic| assumption)
section
open PySem PySem.W PyProof.Rows PySem.Spec PySem.Calls
set_option maxRecDepth 100000
set_option maxHeartbeats 1000000

def MwP (h : Heap) (q l : Addr) : Prop := h.get? q = some (mwObj l)
theorem mw_keeper {M : Model} {q l : Addr} {h : Heap} (e : h.get? q = some (mwObj l)) : Looks M h (keeperOf (.ref q)) .machine := by
  intro A Q E s k hq
  unfold keeperOf
  refine wpAny_bind (wpAny_load (k _ _ e) ?_)
  dsimp only
  rw [if_pos (by decide), if_pos (by decide)]
  exact wpAny_pure hq
theorem callWith_W {M : Model} {A : Around} {E : Value → Shared → Prop} {s : Shared} {h₀ : Heap} {L q l : Addr} {news : List (Addr × Obj)} {pos : Pos} {first : List Value} {env : Env} {e : PySem.Expr} {rest : List PySem.Expr} {Q : Value → Shared → Prop} (N : News h₀ L s.heap news) (hm : (q, mwObj l) ∈ news)
    (h : wpAny M A (spliced (backTo pos (starEach (e :: rest) env))) (fun vs s₁ => MwP s₁.heap q l ∧ wpAny M A (call (.ref q) (first ++ vs)) Q E s₁) E s)
    (he : starEach (e :: rest) env = (false, eval e env) :: starEach rest env := by rfl) (hplain : (backTo pos (starEach rest env)).any (·.1) = false := by rfl) :
    wpAny M A (callWith pos (.ref q) first (backTo pos (starEach (e :: rest) env)) []) Q E s := by
  rw [he] at h ⊢
  refine callWith_of (P := fun h => MwP h q l) (by show ((false || (backTo pos (starEach rest env)).any (·.1)) || false) = false; rw [hplain]; rfl) (fun h X => ⟨.machine, .inr (.inl rfl), mw_keeper X⟩) (evalArgs_plain h)
theorem mw_call_B {prog : Program} {w : World} {A : Around} {E : Value → Shared → Prop} {s : Shared} {h₀ : Heap} {L q l : Addr} {news : List (Addr × Obj)} {vs : List Value} {ns : List Int} {n : Int} {t : Tok} {c : Nat} {b : Bool} {Q : Value → Shared → Prop} (N : News h₀ L s.heap news) (hq : (q, mwObj l) ∈ news) (hl : (l, listOf vs.toArray c) ∈ news) (hi : IntsAre vs ns) (hb : ns.contains n = b) (h : Q (.bool b) s) :
    wpAny (model prog w) A (call (.ref q) [.int n t]) Q E s := mw_call_K N hq hl hi (by rw [hb]; exact h)
def STOP (P : Prop) : Prop := P
theorem stop_here {P : Prop} (h : STOP P) : P := h
local macro_rules | `(tactic| walk_at "exec While Constant cons nil") => `(tactic| refine stop_here ?_)
local macro_rules | `(tactic| walk_at "call builtin:next") => `(tactic| (k_here; (with_reducible show wpAny _ _ (call (Value.builtin "next") [Value.ref _]) _ _ _); k_dflt (first
  | (refine' next_list_K ?k1 ?k2 ?k3 ?k4 ?k5 ?_; (case k1 | k2 => k_asm); (case k3 => k_upd); (case k4 => exact News.isList (by k_asm) (by k_mem)); (case k5 => assumption); k_whole; intro h' F' N')
  | (refine' next_end_K ?k0 ?k1 ?k2 ?k3 ?k4 ?k5 ?_; (case k0 => assumption); (case k1 | k2 => k_asm); (case k3 => k_upd); (case k4 => exact News.isList (by k_asm) (by k_mem)); (case k5 => assumption); k_whole; intro h1' h' e' F' N' x'))))
local macro_rules | `(tactic| walk_at "call ref") => `(tactic| (k_here; (with_reducible show wpAny _ _ (call (Value.ref _) [Value.int _ _]) _ _ _); k_dflt (refine' mw_call_B ?k1 ?k2 ?k3 ?k4 ?k5 ?_; (case k1 => k_asm); (case k2 | k3 => k_mem); (case k4 | k5 => assumption); k_whole)))
local macro_rules | `(tactic| walk_at "callWith ref") => `(tactic| (k_here; k_dflt (refine' callWith_W ?k1 ?k2 ?_; (case k1 => k_asm); (case k2 => k_mem); k_whole)))
local macro_rules | `(tactic| walk_at "And") => `(tactic| ((with_reducible show MwP _ _ _ ∧ _); refine ⟨?_, ?_⟩; all_goals (try dsimp only [List.nil_append, List.cons_append])))
abbrev ffInst (d q I : Addr) : Obj := { cls := .ref 47, dict := some d, slots := #[some (.ref q), some (.ref I)] }

theorem owit_stopN {M : Model} {A : Around} {E : Value → Shared → Prop} {s : Shared} {h₀ h : Heap} {L e : Addr} {m : Str → Option Value} {Q : Option Value → Shared → Prop} {env0 : Env} {outer : List Env} {news : List (Addr × Obj)} {X : String}
    (hf : env0.frame = some L) (R : RaisedN h₀ (env0 :: outer) e (.type X) news s.heap) (hsm : h.UpToSlots s.heap) (F : Fr h₀ L h m) (hsub : isSubtype (.type X) (.type "StopIteration") = pure true)
    (k : Fr h₀ L s.heap m → News h₀ L s.heap news → Q none s) : OwitStop M A Q E (.ref e) s := by
  obtain ⟨B, a0, hB, hl, hfl⟩ := R
  have hL : B.get? L = none := by
    obtain ⟨_, ⟨L', _, hf2, hn', _⟩, _⟩ := hfl.2.2.1
    rw [hf] at hf2
    obtain rfl : L = L' := Option.some.inj hf2
    exact hn'
  have hf' := flyingW_base hB hfl
  obtain ⟨ob, hob, hobc⟩ := hf'.there
  have hT : s.TypeIs (.ref e) X := (show ∃ o, s.heap.get? e = some o ∧ o.cls = .type X from ⟨ob, hob, hobc⟩)
  unfold OwitStop
  refine wpAny_isInstance hT hsub ?_
  show (if true = true then Q none s else E (.ref e) s)
  rw [if_pos rfl]
  exact k (F.of_stays hf'.1 hsm) fun q hq => ⟨hfl.1 _ _ (hl q hq).1, (fun z => by have := (hl q hq).1; rw [z, hL] at this; cases this), (hl q hq).2⟩
theorem bind2 {m : Str → Option Value} {a b : Str} {u v : Value} (e1 : m a = some u) (e2 : m b = some v) : m = bindM (bindM m a (some u)) b (some v) := by
  funext z
  unfold bindM
  split
  · subst z; exact e2
  · split
    · subst z; exact e1
    · rfl
theorem nextF {w : World} {prog : Program} {A A₀ : Around} {E : Value → Shared → Prop} {s : Shared} {base h₀ : Heap} {env0 : Env} {outer : List Env} {L x d q I l1 l2 : Addr} {m : Str → Option Value} {news : List (Addr × Obj)} {o : Obj} {S : Addr}
    {p : Program} {loose : List Str} {mean : ExcName → Option Value} {mg mb : Str → Option Value} {ws1 ws2 : List Value} {ns1 ns2 : List Int} {c1 c2 i : Nat} {Q : Value → Shared → Prop} {Qs : Option Value → Shared → Prop}
    (B : Below A₀ base outer h₀) (F : Fr h₀ L s.heap m) (X : (hd01.heap_1 w.params).In h₀) (T : Top p loose mean mg mb h₀) 
    (N : News h₀ L s.heap ((S, o) :: (I, liObj l1 i) :: (x, ffInst d q I) :: (d, dictOf [] 0) :: (q, mwObj l2) :: news))
    (hA : A.frames = some (env0 :: outer)) (hf : env0.frame = some L) (hk : env0.scope.kind = .function) (hd : A.depth < recursionLimit) (hh : A.handled = none)
    (m1 : (l1, listOf ws1.toArray c1) ∈ news) (m2 : (l2, listOf ws2.toArray c2) ∈ news) (i1 : IntsAre ws1 ns1) (i2 : IntsAre ws2 ns2)
    (ho : (@LE.le Nat instLENat (top news) q ∧ @LT.lt Nat instLTNat q d ∧ @LT.lt Nat instLTNat d x ∧ @LT.lt Nat instLTNat x I ∧ @LT.lt Nat instLTNat I S))
    (hQ : ∀ k a t h' tk, i ≤ k → ns1[k]? = some a → ns2.contains a = false → (∀ j, i ≤ j → j < k → ∃ b, ns1[j]? = some b ∧ ns2.contains b = true) → ws1[k]? = some (.int a t) → Fr h₀ L h' m →
      News h₀ L h' ((S, o) :: (I, liObj l1 (k + 1)) :: (x, ffInst d q I) :: (d, dictOf [] 0) :: (q, mwObj l2) :: news) → Q (.int a t) { s with heap := h', toks := tk })
    (hbz : @LE.le Nat instLENat base.objs.size L)
    (hE : (∀ j b, i ≤ j → ns1[j]? = some b → ns2.contains b = true) → ∀ h' tk, h₀.UpToSlots h' → Fr base L h' m →
      News base L h' ((S, o) :: (I, { cls := .type "list_iterator", data := .fields #[.none, .int ns1.length 0] }) :: (x, ffInst d q I) :: (d, dictOf [] 0) :: (q, mwObj l2) :: news) → Qs none { s with heap := h', toks := tk })
    (hi : i ≤ ns1.length) :
    wpAny (model prog w) A (call (.ref 43) [.ref x]) Q (OwitStop (model prog w) A Qs E) s := by
  refine (?_ : PySem.Challenge.rw_il0165_01.most = some 63 → (hd01.heap_1 w.params).In h₀ → _) rfl X
  k_fill
  intro _ _
  obtain ⟨o1, o2, o3, o4, o5⟩ := ho
  refine wpAny_call ?_
  k_dflt (refine' code_def ?k1 ?k2 ?k3 ?k4 ?k5 ?kA ?kF ?kK ?k6 ?k7 ?k8 ?k9 ?kB ?_ ?c2 ?c3 ?c4 ?c5; (case kA => assumption); (case kF => assumption); (case kK => assumption); (case k1 => k_asm); (case k2 => k_asm); (case k3 => k_asm); (case k4 => k_asm); (case k5 => k_asm); (case k6 => k_is); (case k7 => k_is); (case k8 => assumption); (case k9 => exact BindsTo.of_eq rfl); (case c5 => decide); (case kB => exact locs rfl); (case c2 => exact rfl); (case c3 => exact rfl); (case c4 => exact rfl); k_whole; intro g' L' h' FG' F' N' B' X' T'; (try dsimp only); (try k_fold))
  k_steps
  unfold STOP
  rename Fr g' L' _ _ => F1
  rename News g' L' _ _ => N1
  refine While_inv2 (n₀ := ns1.length - i) (fun n m' nx => ∃ i', i ≤ i' ∧ i' ≤ ns1.length ∧ n = ns1.length - i' ∧ (∀ j, i ≤ j → j < i' → ∃ b, ns1[j]? = some b ∧ ns2.contains b = true) ∧
    nx = ((S, o) :: (I, liObj l1 i') :: (x, ffInst d q I) :: (d, dictOf [] 0) :: (q, mwObj l2) :: news) ∧ m' (Str.ofString "self") = some (.ref x) ∧ m' (Str.ofString "func") = some (.ref q)) F1 N1 
    ⟨i, Nat.le_refl _, hi, rfl, fun j h1 h2 => absurd h2 (Nat.not_lt.mpr h1), rfl, rfl, rfl⟩ ?_
  clear F1 N1
  rintro n m1 nx h1 tk1 F1 N1 ⟨i', j1, j2, rfl, j3, rfl, e1, e2⟩
  rw [bind2 e1 e2] at F1
  try k_fold
  rcases Nat.lt_or_ge i' ns1.length with hlt | hge
  · obtain ⟨t, ht⟩ := i1.get i' ns1[i'] (by simp [hlt])
    have ht' : ws1.toArray[i']? = some (.int ns1[i'] t) := by simpa using ht
    cases hc : ns2.contains ns1[i'] with
    | true =>
      k_steps
      · rename News g' L' _ _ => N2
        exact (N2 _ (.tail _ (.tail _ (.tail _ (.tail _ (.head _)))))).1
      · rename Fr g' L' _ _ => F2
        rename News g' L' _ _ => N2
        refine ⟨_, _, _, _, _, rfl, F2, N2, ?_, i' + 1, by omega, hlt, rfl, fun j h1 h2 => ?_, rfl, ?_, ?_⟩
        · omega
        · rcases Nat.lt_or_ge j i' with h3 | h3
          · exact j3 j h1 h3
          · obtain rfl : j = i' := by omega
            exact ⟨ns1[j], by simp [hlt], hc⟩
        · first | exact e1 | rfl
        · first | exact e2 | rfl
    | false =>
      k_steps
      · rename News g' L' _ _ => N2
        exact (N2 _ (.tail _ (.tail _ (.tail _ (.tail _ (.head _)))))).1
      · rename Fr g' L' _ _ => F2
        rename News g' L' _ _ => N2
        dsimp only [WhileStep2]
        show LeaveK h₀ L m g' _ _ _
        refine leaveK_ F2 N2 fun F3 N3 => ?_
        refine hQ i' ns1[i'] t _ _ j1 (by simp [hlt]) hc j3 ht F3 ?_
        exact N3
  · have hn : ws1.toArray[i']? = none := by
      have := i1.length
      simp; omega
    k_steps
    rename RaisedN _ _ _ _ _ _ => R2
    rename Heap.UpToSlots _ _ => U2
    have hi' : i' = ns1.length := by omega
    subst hi'
    refine owit_stopN (h₀ := base) hf R2 U2 ⟨FG'.ns, fun b o e => FG'.keep b o (B.stays b o e), hbz⟩ (by first | exact isSubtype_stop | rfl) fun F3 N3 => ?_
    refine hE (fun j b h1 h2 => ?_) _ _ ((Heap.UpToSlots.of_keeps FG'.keep).trans U2) F3 N3
    obtain ⟨b', e3, e4⟩ := j3 j h1 (List.getElem?_eq_some_iff.mp h2).1
    rw [h2] at e3
    cases e3
    exact e4
end
section
open PySem PySem.W PyProof.Rows PySem.Spec PySem.Calls
set_option maxRecDepth 100000
set_option maxHeartbeats 1000000
theorem inst_ff {h₀ h : Heap} {L x d q I : Addr} {news : List (Addr × Obj)} (N : News h₀ L h news) (hx : (x, ffInst d q I) ∈ news) (hd : (d, dictOf [] 0) ∈ news) : InstAt h x (ffInst d q I) 47 (some (dictOf [] 0)) := by
  have e1 := (N _ hx).1
  have e2 := (N _ hd).1
  constructor <;> first | exact e1 | rfl | exact e2 | (intro a b; cases b; exact e2)

theorem iterW {w : World} {prog : Program} {A A₀ : Around} {E : Value → Shared → Prop} {s : Shared} {base h₀ : Heap} {env0 : Env} {outer : List Env} {L x d q I : Addr} {m : Str → Option Value} {news : List (Addr × Obj)}
    {p : Program} {loose : List Str} {mean : ExcName → Option Value} {mg mb : Str → Option Value} {Q : Value → Shared → Prop}
    (B : Below A₀ base outer h₀) (F : Fr h₀ L s.heap m) (X : (hd01.heap_1 w.params).In h₀) (T : Top p loose mean mg mb h₀) (N : News h₀ L s.heap news) (hx : (x, ffInst d q I) ∈ news) (hd' : (d, dictOf [] 0) ∈ news)
    (hA : A.frames = some (env0 :: outer)) (hf : env0.frame = some L) (hk : env0.scope.kind = .function) (hd : A.depth < recursionLimit) (hh : A.handled = none)
    (hQ : ∀ h' tk, Fr h₀ L h' m → News h₀ L h' news → Q (.ref x) { s with heap := h', toks := tk }) :
    wpAny (model prog w) A (pyIter (.ref x)) Q E s := by
  refine (?_ : PySem.Challenge.rw_il0165_01.most = some 63 → (hd01.heap_1 w.params).In h₀ → _) rfl X
  k_fill
  intro _ X9
  refine owit_iter F X9 (inst_ff N hx hd') (f := 36) (by with_unfolding_all rfl) (by with_unfolding_all rfl) ?_
  refine wpAny_call ?_
  k_dflt (refine' code_def ?k1 ?k2 ?k3 ?k4 ?k5 ?kA ?kF ?kK ?k6 ?k7 ?k8 ?k9 ?kB ?_ ?c2 ?c3 ?c4 ?c5; (case kA => assumption); (case kF => assumption); (case kK => assumption); (case k1 => k_asm); (case k2 => k_asm); (case k3 => k_asm); (case k4 => k_asm); (case k5 => k_asm); (case k6 => k_is); (case k7 => k_is); (case k8 => assumption); (case k9 => exact BindsTo.of_eq rfl); (case c5 => decide); (case kB => exact locs rfl); (case c2 => exact rfl); (case c3 => exact rfl); (case c4 => exact rfl); k_whole; intro g' L' h' FG' F' N' B' X' T'; (try dsimp only); (try k_fold))
  k_steps
  rename Fr h₀ L _ _ => F9
  rename News h₀ L _ _ => N9
  exact hQ _ _ F9 N9
theorem nextW {w : World} {prog : Program} {A A₀ : Around} {E : Value → Shared → Prop} {s : Shared} {base h₀ : Heap} {env0 : Env} {outer : List Env} {L x d q I l1 l2 : Addr} {m : Str → Option Value} {news : List (Addr × Obj)} {o : Obj} {S : Addr}
    {p : Program} {loose : List Str} {mean : ExcName → Option Value} {mg mb : Str → Option Value} {ws1 ws2 : List Value} {ns1 ns2 : List Int} {c1 c2 i : Nat} {Q : Option Value → Shared → Prop}
    (B : Below A₀ base outer h₀) (F : Fr h₀ L s.heap m) (X : (hd01.heap_1 w.params).In h₀) (T : Top p loose mean mg mb h₀) 
    (N : News h₀ L s.heap ((S, o) :: (I, liObj l1 i) :: (x, ffInst d q I) :: (d, dictOf [] 0) :: (q, mwObj l2) :: news))
    (hA : A.frames = some (env0 :: outer)) (hf : env0.frame = some L) (hk : env0.scope.kind = .function) (hd : A.depth < recursionLimit) (hh : A.handled = none)
    (m1 : (l1, listOf ws1.toArray c1) ∈ news) (m2 : (l2, listOf ws2.toArray c2) ∈ news) (i1 : IntsAre ws1 ns1) (i2 : IntsAre ws2 ns2)
    (ho : (@LE.le Nat instLENat (top news) q ∧ @LT.lt Nat instLTNat q d ∧ @LT.lt Nat instLTNat d x ∧ @LT.lt Nat instLTNat x I ∧ @LT.lt Nat instLTNat I S))
    (hQ : ∀ k a t h' tk, i ≤ k → ns1[k]? = some a → ns2.contains a = false → (∀ j, i ≤ j → j < k → ∃ b, ns1[j]? = some b ∧ ns2.contains b = true) → ws1[k]? = some (.int a t) → Fr h₀ L h' m →
      News h₀ L h' ((S, o) :: (I, liObj l1 (k + 1)) :: (x, ffInst d q I) :: (d, dictOf [] 0) :: (q, mwObj l2) :: news) → Q (some (.int a t)) { s with heap := h', toks := tk })
    (hbz : @LE.le Nat instLENat base.objs.size L)
    (hE : (∀ j b, i ≤ j → ns1[j]? = some b → ns2.contains b = true) → ∀ h' tk, h₀.UpToSlots h' → Fr base L h' m →
      News base L h' ((S, o) :: (I, { cls := .type "list_iterator", data := .fields #[.none, .int ns1.length 0] }) :: (x, ffInst d q I) :: (d, dictOf [] 0) :: (q, mwObj l2) :: news) → Q none { s with heap := h', toks := tk })
    (hi : i ≤ ns1.length) : wpAny (model prog w) A (pyNext (.ref x)) Q E s :=
  owit_next F X (inst_ff N (.tail _ (.tail _ (.head _))) (.tail _ (.tail _ (.tail _ (.head _))))) (f := 43) (by with_unfolding_all rfl) (by with_unfolding_all rfl)
    (nextF B F X T N hA hf hk hd hh m1 m2 i1 i2 ho hQ hbz hE hi)
/-- the places of what is left -/
def kIdx (ns1 ns2 : List Int) : List Nat := (List.range ns1.length).filter fun j => !ns2.contains (ns1.getD j 0)
def kPos (ns1 ns2 : List Int) : Nat → Nat
  | 0 => 0
  | i + 1 => (kIdx ns1 ns2).getD i 0 + 1
theorem kIdx_lt {ns1 ns2 : List Int} {i k : Nat} (h : (kIdx ns1 ns2)[i]? = some k) : k < ns1.length ∧ ns2.contains (ns1.getD k 0) = false := by
  have := List.mem_of_getElem? h
  unfold kIdx at this
  rw [List.mem_filter, List.mem_range] at this
  exact ⟨this.1, by simpa using this.2⟩
theorem kIdx_mono {ns1 ns2 : List Int} : (kIdx ns1 ns2).Pairwise (· < ·) := List.Pairwise.filter _ List.pairwise_lt_range
theorem kIdx_gap {ns1 ns2 : List Int} {i j : Nat} (hi : i ≤ (kIdx ns1 ns2).length) (h1 : kPos ns1 ns2 i ≤ j) (h2 : ∀ k, (kIdx ns1 ns2)[i]? = some k → j < k) (h3 : j < ns1.length) : ns2.contains (ns1.getD j 0) = true := by
  cases hc : ns2.contains (ns1.getD j 0) with
  | true => rfl
  | false =>
    exfalso
    have hm : j ∈ kIdx ns1 ns2 := by
      unfold kIdx
      rw [List.mem_filter, List.mem_range]
      exact ⟨h3, by rw [hc]; rfl⟩
    obtain ⟨i', hi', e⟩ := List.mem_iff_getElem.mp hm
    have mono := List.pairwise_iff_getElem.mp (kIdx_mono (ns1 := ns1) (ns2 := ns2))
    rcases Nat.lt_or_ge i' i with hlt | hge
    · cases i with
      | zero => omega
      | succ i =>
        have hil : i < (kIdx ns1 ns2).length := by omega
        have e2 : kPos ns1 ns2 (i + 1) = (kIdx ns1 ns2)[i] + 1 := by
          show (kIdx ns1 ns2).getD i 0 + 1 = _
          rw [List.getD_eq_getElem?_getD, List.getElem?_eq_getElem hil]; rfl
        rcases Nat.lt_or_ge i' i with q | q
        · have := mono i' i hi' hil q
          omega
        · have : i' = i := by omega
          subst this
          omega
    · have hil : i < (kIdx ns1 ns2).length := by omega
      have := h2 _ (List.getElem?_eq_getElem hil)
      rcases Nat.lt_or_ge i i' with q | q
      · have := mono i i' hil hi' q
        omega
      · have : i' = i := by omega
        subst this
        omega
theorem kPos_succ {ns1 ns2 : List Int} {i m : Nat} (h : (kIdx ns1 ns2)[i]? = some m) : kPos ns1 ns2 (i + 1) = m + 1 := by
  show (kIdx ns1 ns2).getD i 0 + 1 = _
  rw [List.getD_eq_getElem?_getD, h]; rfl
theorem kPos_le {ns1 ns2 : List Int} {i m : Nat} (h : (kIdx ns1 ns2)[i]? = some m) : kPos ns1 ns2 i ≤ m := by
  cases i with
  | zero => exact Nat.zero_le _
  | succ i =>
    have hil := (List.getElem?_eq_some_iff.mp h).1
    have hil' : i < (kIdx ns1 ns2).length := by omega
    rw [kPos_succ (List.getElem?_eq_getElem hil')]
    have := List.pairwise_iff_getElem.mp (kIdx_mono (ns1 := ns1) (ns2 := ns2)) i (i + 1) hil' hil (Nat.lt_succ_self _)
    rw [List.getElem?_eq_getElem hil] at h
    cases h
    omega
theorem kIdx_vals (ns1 ns2 : List Int) : (kIdx ns1 ns2).map (fun j => ns1.getD j 0) = ns1.filter fun x => !ns2.contains x := by
  unfold kIdx
  have h1 : ns1 = (List.range ns1.length).map (fun j => ns1.getD j 0) := by
    refine List.ext_getElem (by simp) fun i h1 h2 => ?_
    simp only [List.getElem_map, List.getElem_range]
    rw [List.getD_eq_getElem?_getD, List.getElem?_eq_getElem h1]; rfl
  have h2 : ns1.filter (fun x => !ns2.contains x) = ((List.range ns1.length).map (fun j => ns1.getD j 0)).filter fun x => !ns2.contains x := by rw [← h1]
  rw [h2, List.filter_map]
  rfl
end
section
open PySem PySem.W PyProof.Rows PySem.Spec PySem.Calls
set_option maxRecDepth 100000
set_option maxHeartbeats 1000000
/-- binary search in a rising array -/
theorem below_go (xs : Array Nat) (j : Nat) (hr : xs.toList.Pairwise (· < ·)) : ∀ (fuel lo hi : Nat), hi - lo ≤ fuel → lo ≤ hi → hi ≤ xs.size → (∀ i, i < lo → xs.getD i 0 < j) → (∀ i, hi ≤ i → i < xs.size → j ≤ xs.getD i 0) →
    ∃ m, SetTable.below.go xs j fuel lo hi = m ∧ m ≤ xs.size ∧ (∀ i, i < m → xs.getD i 0 < j) ∧ ∀ i, m ≤ i → i < xs.size → j ≤ xs.getD i 0 := by
  have mono : ∀ a b, a < b → b < xs.size → xs.getD a 0 < xs.getD b 0 := by
    intro a b hab hb
    have := List.pairwise_iff_getElem.mp hr a b (by simpa using Nat.lt_trans hab hb) (by simpa using hb) hab
    simpa [Array.getD, Nat.lt_trans hab hb, hb] using this
  intro fuel
  induction fuel with
  | zero =>
    intro lo hi h1 h2 h3 h4 h5
    exact ⟨lo, rfl, Nat.le_trans h2 h3, h4, fun i hi' => h5 i (by omega)⟩
  | succ fuel ih =>
    intro lo hi h1 h2 h3 h4 h5
    unfold SetTable.below.go
    by_cases hlt : lo < hi
    · rw [if_pos hlt]
      dsimp only
      by_cases hm : xs.getD ((lo + hi) / 2) j < j
      · rw [if_pos hm]
        have hmb : (lo + hi) / 2 < xs.size := by omega
        refine ih _ _ (by omega) (by omega) h3 (fun i hi' => ?_) h5
        have e : xs.getD ((lo + hi) / 2) j = xs.getD ((lo + hi) / 2) 0 := by simp [Array.getD, hmb]
        rw [e] at hm
        by_cases q : i = (lo + hi) / 2
        · rw [q]; exact hm
        · exact Nat.lt_trans (mono i _ (by omega) hmb) hm
      · rw [if_neg hm]
        have hmb : (lo + hi) / 2 < xs.size := by omega
        refine ih _ _ (by omega) (by omega) (by omega) h4 (fun i hi' hb => ?_)
        have e : xs.getD ((lo + hi) / 2) j = xs.getD ((lo + hi) / 2) 0 := by simp [Array.getD, hmb]
        rw [e] at hm
        by_cases q : i = (lo + hi) / 2
        · rw [q]; omega
        · have := mono _ i (by omega : (lo + hi) / 2 < i) hb
          omega
    · rw [if_neg hlt]
      exact ⟨lo, rfl, Nat.le_trans h2 h3, h4, fun i hi' => h5 i (by omega)⟩
theorem below_split {xs : Array Nat} {j : Nat} (hr : xs.toList.Pairwise (· < ·)) : ∃ m, SetTable.below xs j = m ∧ m ≤ xs.size ∧ (∀ x ∈ xs.toList.take m, x < j) ∧ ∀ x ∈ xs.toList.drop m, j ≤ x := by
  obtain ⟨m, h1, h2, h3, h4⟩ := below_go xs j hr xs.size 0 xs.size (by omega) (Nat.zero_le _) (Nat.le_refl _) (fun i hi => absurd hi (Nat.not_lt_zero _)) (fun i h1 h2 => absurd h1 (by omega))
  refine ⟨m, h1, h2, fun x hx => ?_, fun x hx => ?_⟩
  · obtain ⟨i, hi, rfl⟩ := List.mem_take_iff_getElem.mp hx
    have := h3 i (by omega)
    have hb : i < xs.size := by simp at hi; omega
    simpa [Array.getD, hb] using this
  · obtain ⟨i, hi, rfl⟩ := List.mem_drop_iff_getElem.mp hx
    have hb : m + i < xs.size := by have q := hi; simp at q; omega
    have := h4 (m + i) (by omega) hb
    simpa [Array.getD, hb] using this
/-- an element goes in -/
def insAt {α : Type} (l : List α) (p : Nat) (x : α) : List α := l.take p ++ x :: l.drop p
theorem ins_list {α : Type} (xs : Array α) (p : Nat) (x : α) : (SetTable.insertAt xs p x).toList = insAt xs.toList p x := by
  unfold SetTable.insertAt insAt
  simp [Array.toList_extract]
  try (rw [List.take_of_length_le (by simp)])
theorem below_at {xs : Array Nat} (hr : xs.toList.Pairwise (· < ·)) {i j : Nat} (h : xs[i]? = some j) : SetTable.below xs (j + 1) = i + 1 := by
  obtain ⟨m, e, h1, h2, h3⟩ := below_split (j := j + 1) hr
  rw [e]
  have hi : i < xs.toList.length := by simpa using (Array.getElem?_eq_some_iff.mp h).1
  have hj : xs.toList[i] = j := by simpa using (Array.getElem?_eq_some_iff.mp h).2
  rcases Nat.lt_trichotomy m (i + 1) with q | q | q
  · have : xs.toList[i] ∈ xs.toList.drop m := List.mem_drop_iff_getElem.mpr ⟨i - m, by simp at hi ⊢; omega, by congr 1; omega⟩
    have := h3 _ this
    omega
  · exact q
  · have hi1 : i + 1 < xs.toList.length := by simp at hi ⊢; omega
    have : xs.toList[i + 1] ∈ xs.toList.take m := List.mem_take_iff_getElem.mpr ⟨i + 1, by simp at hi1 ⊢; omega, rfl⟩
    have h4 := h2 _ this
    have := List.pairwise_iff_getElem.mp hr i (i + 1) hi hi1 (Nat.lt_succ_self _)
    omega
theorem below_zero {xs : Array Nat} (hr : xs.toList.Pairwise (· < ·)) : SetTable.below xs 0 = 0 := by
  obtain ⟨m, e, h1, h2, h3⟩ := below_split (j := 0) hr
  rw [e]
  cases m with
  | zero => rfl
  | succ m =>
    have hb : 0 < xs.toList.length := by simp; omega
    exact absurd (h2 xs.toList[0] (List.mem_take_iff_getElem.mpr ⟨0, by simp at hb ⊢; omega, rfl⟩)) (Nat.not_lt_zero _)
theorem not_at {xs : Array Nat} {j : Nat} (h : j ∉ xs.toList) (i : Nat) : (xs[i]? == some j) = false := by
  rw [beq_eq_false_iff_ne]
  intro e
  exact h (Array.mem_toList_iff.mpr (Array.mem_of_getElem? e))

theorem below_self {xs : Array Nat} (hr : xs.toList.Pairwise (· < ·)) {i j : Nat} (h : xs[i]? = some j) : SetTable.below xs j = i := by
  obtain ⟨m, e, h1, h2, h3⟩ := below_split (j := j) hr
  rw [e]
  have hi : i < xs.toList.length := by simpa using (Array.getElem?_eq_some_iff.mp h).1
  have hj : xs.toList[i] = j := by simpa using (Array.getElem?_eq_some_iff.mp h).2
  rcases Nat.lt_trichotomy m i with q | q | q
  · have hm : m < xs.toList.length := Nat.lt_trans q hi
    have h4 := h3 xs.toList[m] (List.mem_drop_iff_getElem.mpr ⟨0, by omega, rfl⟩)
    have := List.pairwise_iff_getElem.mp hr m i hm hi q
    omega
  · exact q
  · have h4 := h2 xs.toList[i] (List.mem_take_iff_getElem.mpr ⟨i, by omega, rfl⟩)
    omega
theorem nodup_le {l₁ : List Nat} (hn : l₁.Nodup) : ∀ {l₂ : List Nat}, (∀ x ∈ l₁, x ∈ l₂) → l₁.length ≤ l₂.length := by
  induction l₁ with
  | nil => exact fun _ => Nat.zero_le _
  | cons a r ih =>
    intro l₂ h
    have ha := h a (.head _)
    have := ih (List.nodup_cons.mp hn).2 (l₂ := l₂.erase a) fun x hx => (List.mem_erase_of_ne (fun e : x = a => (List.nodup_cons.mp hn).1 (e ▸ hx))).mpr (h x (.tail _ hx))
    rw [List.length_erase_of_mem ha] at this
    have := List.length_pos_of_mem ha
    rw [List.length_cons]
    omega
/-- a table that holds ints from 0 to 15 -/
structure TabR (t : SetTable) (ks : List Nat) : Prop where
  pl : t.plain = true
  du : t.dummies = #[]
  sz : t.place.size = ks.length
  ri : t.place.toList.Pairwise (· < ·)
  le : ∀ p ∈ t.place.toList, p ≤ t.mask
  nd : ks.Nodup
  lt : ∀ k ∈ ks, k < 16
  sh : t.mask = 7 ∨ (15 ≤ t.mask ∧ t.place.toList = ks)
structure TabOk (t : SetTable) (ks : List Nat) : Prop extends TabR t ks where
  ro : 5 * ks.length < 3 * t.mask
theorem slot_free {t : SetTable} {j : Nat} (hd : t.dummies = #[]) (h : j ∉ t.place.toList) : t.slot j = .empty := by
  unfold SetTable.slot
  dsimp only
  rw [not_at h, if_neg Bool.false_ne_true]
  unfold SetTable.has
  rw [hd]
  rfl
theorem probe_here {t : SetTable} {f : Nat → Int} {h : Int} {p : SetTable.Probe} (fuel : Nat) (e : t.slot p.j = .empty) : SetTable.probe.go t f h (fuel + 1) p = some (.empty p.j p.dummy) := by
  unfold SetTable.probe.go
  rw [e]
def hop (i : Nat) : Nat → Nat
  | 0 => i
  | m + 1 => hop ((i * 5 + 1) % 8) m
theorem hop_all : ∀ i : Fin 8, ∀ j : Fin 8, ∃ m : Fin 8, hop i.val m.val = j.val := by decide
theorem few_free {l : List Nat} (hn : l.Nodup) (h8 : ∀ x ∈ l, x < 8) (hl : l.length < 8) (i : Nat) (hi : i < 8) : ∃ m, m < 8 ∧ hop i m ∉ l := by
  refine Classical.byContradiction fun hc => ?_
  have all : ∀ j, j < 8 → j ∈ l := fun j hj => by
    obtain ⟨m, hm⟩ := hop_all ⟨i, hi⟩ ⟨j, hj⟩
    refine Classical.byContradiction fun q => hc ⟨m.val, m.isLt, ?_⟩
    have hm : hop i m.val = j := hm
    rw [hm]; exact q
  have : (List.range 8).length ≤ l.length := nodup_le List.nodup_range fun x hx => all x (List.mem_range.mp hx)
  rw [List.length_range] at this
  omega
theorem probe_seven {t : SetTable} {f : Nat → Int} {h : Int} (hd : t.dummies = #[]) (hr : t.place.toList.Pairwise (· < ·)) (hm : t.mask = 7) (hf : ∀ i, (f i == h) = false) : ∀ (m : Nat) (fuel : Nat) (p : SetTable.Probe), m < fuel → p.more = 0 → p.i = p.j → p.perturb < 32 → p.dummy = none → p.j < 8 → hop p.j m ∉ t.place.toList → ∃ j, j < 8 ∧ j ∉ t.place.toList ∧ SetTable.probe.go t f h fuel p = some (.empty j none) := by
  intro m
  induction m with
  | zero =>
    intro fuel p h1 h2 h3 h4 h5 h6 h7
    cases fuel with
    | zero => exact absurd h1 (Nat.not_lt_zero _)
    | succ fuel => exact ⟨p.j, h6, h7, by rw [probe_here fuel (slot_free hd h7), h5]⟩
  | succ m ih =>
    intro fuel p h1 h2 h3 h4 h5 h6 h7
    cases fuel with
    | zero => exact absurd h1 (Nat.not_lt_zero _)
    | succ fuel =>
      by_cases hj : p.j ∈ t.place.toList
      · unfold SetTable.probe.go
        have hadv : t.advance p = { p with j := (p.j * 5 + 1) % 8, more := 0, i := (p.j * 5 + 1) % 8, perturb := 0 } := by
          unfold SetTable.advance
          rw [if_neg (by omega)]
          unfold SetTable.leap
          rw [hm, h3]
          have e0 : p.perturb / 32 = 0 := Nat.div_eq_of_lt h4
          rw [e0]
          dsimp only
          have : SetTable.runEnd 7 ((p.j * 5 + 1 + 0) % (7 + 1)) - (p.j * 5 + 1 + 0) % (7 + 1) = 0 := by
            unfold SetTable.runEnd
            rw [if_neg (by omega)]
            omega
          rw [this]
        have hs : ∃ i, t.slot p.j = .live i := by
          obtain ⟨i, hi⟩ := List.getElem?_of_mem hj
          rw [Array.getElem?_toList] at hi
          refine ⟨i, ?_⟩
          unfold SetTable.slot
          dsimp only
          rw [below_self hr hi, hi]
          exact if_pos (by simp)
        obtain ⟨i, hs⟩ := hs
        rw [hs]
        dsimp only
        rw [hf i, if_neg Bool.false_ne_true, hadv]
        exact ih fuel _ (by omega) rfl rfl (Nat.zero_lt_succ 31) h5 (Nat.mod_lt _ (by decide)) h7
      · exact ⟨p.j, h6, hj, by rw [probe_here fuel (slot_free hd hj), h5]⟩
theorem bits_small {k : Nat} (h : k < 16) : SetTable.bits (k : Int) = k := by
  unfold SetTable.bits
  rw [Int.emod_eq_of_lt (by omega) (by omega)]
  rfl
theorem free_slot {t : SetTable} {ks : List Nat} (T : TabR t ks) (h5 : ks.length ≤ 15) {k : Nat} (hk : k < 16) (hn : k ∉ ks) (h7 : t.mask = 7 → ks.length < 8) : ∃ j, t.freeSlot (k : Int) = some (j, false) ∧ j ≤ t.mask ∧ j ∉ t.place.toList ∧ (t.mask ≠ 7 → j = k) := by
  have hb : SetTable.bits (k : Int) = k := bits_small hk
  rcases T.sh with hm | ⟨hm, hp⟩
  · obtain ⟨m, hm8, hfree⟩ := few_free (l := t.place.toList) (T.ri.imp fun h => Nat.ne_of_lt h) (fun x hx => by have := T.le x hx; omega) (by rw [Array.length_toList, T.sz]; exact h7 hm) (k % 8) (Nat.mod_lt _ (by decide))
    have hf : ∀ i : Nat, (((fun _ => (k : Int) + 1) : Nat → Int) i == (k : Int)) = false := fun i => by rw [beq_eq_false_iff_ne]; show (k : Int) + 1 ≠ (k : Int); omega
    obtain ⟨j, h1, h2, h3⟩ := probe_seven (t := t) (h := (k : Int)) T.du T.ri hm hf m (10 * SetTable.turns t.mask) (t.probeStart (k : Int)) (by unfold SetTable.turns; omega)
      (by unfold SetTable.probeStart SetTable.runEnd; dsimp only; rw [hm, if_neg (by omega)]; omega) rfl (by show SetTable.bits (k : Int) < 32; rw [hb]; omega) rfl (by show SetTable.bits (k : Int) % (t.mask + 1) < 8; rw [hm]; exact Nat.mod_lt _ (by decide)) (by
        show hop (SetTable.bits (k : Int) % (t.mask + 1)) m ∉ _
        rw [hb, hm]
        exact hfree)
    refine ⟨j, ?_, by omega, h2, fun q => absurd hm q⟩
    unfold SetTable.freeSlot SetTable.probe
    rw [h3]
    rfl
  · have hj : (t.probeStart (k : Int)).j = k := by
      show SetTable.bits (k : Int) % (t.mask + 1) = k
      rw [hb, Nat.mod_eq_of_lt (by omega)]
    refine ⟨k, ?_, by omega, by rw [hp]; exact hn, fun _ => rfl⟩
    unfold SetTable.freeSlot SetTable.probe
    obtain ⟨f, hf⟩ : ∃ f, 10 * SetTable.turns t.mask = f + 1 := ⟨10 * SetTable.turns t.mask - 1, by unfold SetTable.turns; omega⟩
    rw [hf, probe_here f (by rw [hj]; exact slot_free T.du (by rw [hp]; exact hn)), hj]
    rfl
theorem insAt_perm {α : Type} (l : List α) (p : Nat) (x : α) : (insAt l p x).Perm (x :: l) := by
  unfold insAt
  refine List.perm_middle.trans (List.Perm.cons x ?_)
  rw [List.take_append_drop]
theorem insAt_map {α β : Type} (f : α → β) (l : List α) (p : Nat) (x : α) : (insAt l p x).map f = insAt (l.map f) p (f x) := by
  unfold insAt
  rw [List.map_append, List.map_cons, List.map_take, List.map_drop]
theorem lay_new {t : SetTable} {ks : List Nat} (T : TabOk t ks) (h15 : ks.length ≤ 15) {k : Nat} (hk : k < 16) (hn : k ∉ ks) {es : Array (Int × Value)} (hes : es.size = ks.length) (x : Value) :
    ∃ p t', layNew t es (k : Int) x = (SetTable.insertAt es p ((k : Int), x), t', false, false) ∧ TabR t' (insAt ks p k) ∧ t'.mask = t.mask ∧ t'.led = t.led ∧ t'.fits (ks.length + 1) = true := by
  have hro := T.ro
  obtain ⟨j, h1, h2, h3, h4⟩ := free_slot T.toTabR h15 hk hn (fun q => by omega)
  obtain ⟨p, e, e1, e2, e3⟩ := below_split (xs := t.place) (j := j) T.ri
  have hput : t.put j = ({ t with place := SetTable.insertAt t.place p j }, p) := by
    unfold SetTable.put
    dsimp only
    rw [e]
    have : SetTable.has t.dummies j = false := by unfold SetTable.has; rw [T.du]; rfl
    rw [this, if_neg Bool.false_ne_true]
  have hpl : (SetTable.insertAt t.place p j).toList = insAt t.place.toList p j := ins_list _ _ _
  have hsz : (SetTable.insertAt es p ((k : Int), x)).size = ks.length + 1 := by
    rw [← Array.length_toList, ins_list, (insAt_perm es.toList p _).length_eq, List.length_cons, Array.length_toList, hes]
  have hps : (SetTable.insertAt t.place p j).size = ks.length + 1 := by
    rw [← Array.length_toList, hpl, (insAt_perm _ _ _).length_eq, List.length_cons, Array.length_toList, T.sz]
  have hfit : SetTable.fits { t with place := SetTable.insertAt t.place p j } (ks.length + 1) = true := by
    unfold SetTable.fits SetTable.fill
    dsimp only
    rw [hps, T.du]
    simp
    omega
  have hR : TabR { t with place := SetTable.insertAt t.place p j } (insAt ks p k) := by
    refine ⟨T.pl, T.du, by rw [hps, (insAt_perm _ _ _).length_eq, List.length_cons], ?_, ?_, (insAt_perm _ _ _).nodup_iff.mpr (List.nodup_cons.mpr ⟨hn, T.nd⟩), fun y hy => ?_, ?_⟩
    · show (SetTable.insertAt t.place p j).toList.Pairwise (· < ·)
      rw [hpl]
      unfold insAt
      refine List.pairwise_append.mpr ⟨T.ri.sublist (List.take_sublist _ _), List.pairwise_cons.mpr ⟨fun y hy => ?_, T.ri.sublist (List.drop_sublist _ _)⟩, fun a ha b hb => ?_⟩
      · have := e3 y hy
        exact Nat.lt_of_le_of_ne this fun q => h3 (q ▸ List.mem_of_mem_drop hy)
      · have q1 := e2 a ha
        rcases List.mem_cons.mp hb with rfl | hb
        · exact q1
        · exact Nat.lt_of_lt_of_le q1 (e3 b hb)
    · intro y hy
      rw [show ({ t with place := SetTable.insertAt t.place p j } : SetTable).place = SetTable.insertAt t.place p j from rfl, hpl] at hy
      rcases List.mem_cons.mp ((insAt_perm _ _ _).mem_iff.mp hy) with rfl | hy
      · exact h2
      · exact T.le y hy
    · rcases List.mem_cons.mp ((insAt_perm _ _ _).mem_iff.mp hy) with rfl | hy
      · exact hk
      · exact T.lt y hy
    · rcases T.sh with q | ⟨q1, q2⟩
      · exact .inl q
      · refine .inr ⟨q1, ?_⟩
        show (SetTable.insertAt t.place p j).toList = _
        rw [hpl, q2, h4 (by omega)]
  refine ⟨p, { t with place := SetTable.insertAt t.place p j }, ?_, hR, rfl, rfl, hfit⟩
  unfold layNew
  rw [h1]
  dsimp only
  rw [hput]
  dsimp only
  rw [hsz]
  unfold SetTable.orStandIn
  rw [hfit]
  rfl
end
section
open PySem PySem.W PyProof.Rows PySem.Spec PySem.Calls
set_option maxRecDepth 100000
set_option maxHeartbeats 1000000
structure OwI (mask : Nat) (owner : Array (Option Nat)) (slots : List Nat) : Prop where
  sz : owner.size = mask + 1
  nd : slots.Nodup
  le : ∀ j ∈ slots, j ≤ mask
  at_ : ∀ j i, owner.getD j none = some i ↔ slots[i]? = some j
theorem ow_none {mask : Nat} {owner : Array (Option Nat)} {slots : List Nat} (O : OwI mask owner slots) {j : Nat} (hj : j ≤ mask) (h : j ∉ slots) : owner.getD j (some 0) = none := by
  have hb : j < owner.size := by rw [O.sz]; omega
  have : owner.getD j none = none := by
    cases q : owner.getD j none with
    | none => rfl
    | some i => exact absurd (List.mem_of_getElem? ((O.at_ j i).mp q)) h
  simpa [Array.getD, hb] using this
theorem ow_some {mask : Nat} {owner : Array (Option Nat)} {slots : List Nat} (O : OwI mask owner slots) {j : Nat} (h : j ∈ slots) : (owner.getD j (some 0)).isNone = false := by
  obtain ⟨i, hi⟩ := List.getElem?_of_mem h
  have := (O.at_ j i).mpr hi
  have hb : j < owner.size := by rw [O.sz]; have := O.le j h; omega
  have e : owner.getD j (some 0) = owner.getD j none := by simp [Array.getD, hb]
  rw [e, this]
  rfl
theorem ow_put {mask : Nat} {owner : Array (Option Nat)} {slots : List Nat} (O : OwI mask owner slots) {j : Nat} (hj : j ≤ mask) (h : j ∉ slots) : OwI mask (owner.setIfInBounds j (some slots.length)) (slots ++ [j]) := by
  have hb : j < owner.size := by rw [O.sz]; omega
  refine ⟨by rw [Array.size_setIfInBounds, O.sz], List.nodup_append.mpr ⟨O.nd, by simp, fun a ha b hb q => h (by rw [List.mem_singleton.mp hb] at q; exact q ▸ ha)⟩, fun x hx => ?_, fun x i => ?_⟩
  · rcases List.mem_append.mp hx with hx | hx
    · exact O.le x hx
    · rw [List.mem_singleton.mp hx]; exact hj
  · have hg : (owner.setIfInBounds j (some slots.length)).getD x none = if j = x then some slots.length else owner.getD x none := by
      rw [Array.getD_eq_getD_getElem?, Array.getD_eq_getD_getElem?, Array.getElem?_setIfInBounds]
      split
      · rename_i q
        subst q
        first
          | rfl
          | (rw [if_pos hb]; rfl)
      · rfl
    rw [hg]
    by_cases q : j = x
    · subst q
      rw [if_pos rfl]
      constructor
      · intro e
        cases e
        simp
      · intro e
        by_cases hi : i < slots.length
        · rw [List.getElem?_append_left hi] at e
          exact absurd (List.mem_of_getElem? e) h
        · rw [List.getElem?_append_right (by omega)] at e
          have : i - slots.length = 0 := by
            have := (List.getElem?_eq_some_iff.mp e).1
            simp at this
            omega
          congr 1
          omega
    · rw [if_neg q, O.at_]
      constructor
      · intro e
        rw [List.getElem?_append_left (List.getElem?_eq_some_iff.mp e).1]
        exact e
      · intro e
        by_cases hi : i < slots.length
        · rw [List.getElem?_append_left hi] at e
          exact e
        · rw [List.getElem?_append_right (by omega)] at e
          exact absurd (List.mem_singleton.mp (List.mem_of_getElem? e)).symm q
theorem free_one {mask : Nat} {owner : Array (Option Nat)} {fuel i pt : Nat} (h : owner.getD i (some 0) = none) : SetTable.layClean.free mask owner (fuel + 1) i pt = some i := by
  unfold SetTable.layClean.free
  have : (List.range (SetTable.runEnd mask i + 1 - i)).find? (fun k => (owner.getD (i + k) (some 0)).isNone) = some 0 := by
    obtain ⟨m, hm⟩ : ∃ m, SetTable.runEnd mask i + 1 - i = m + 1 := ⟨SetTable.runEnd mask i - i, by unfold SetTable.runEnd; split <;> omega⟩
    rw [hm, List.range_succ_eq_map, List.find?_cons, Nat.add_zero, h]
    rfl
  rw [this]
  rfl
theorem free_seven {owner : Array (Option Nat)} {slots : List Nat} (O : OwI 7 owner slots) : ∀ (m fuel i pt : Nat), m < fuel → pt < 32 → i < 8 → hop i m ∉ slots → ∃ j, j < 8 ∧ j ∉ slots ∧ SetTable.layClean.free 7 owner fuel i pt = some j := by
  intro m
  induction m with
  | zero =>
    intro fuel i pt h1 h2 h3 h4
    cases fuel with
    | zero => exact absurd h1 (Nat.not_lt_zero _)
    | succ fuel => exact ⟨i, h3, h4, free_one (ow_none O (Nat.le_of_lt_succ h3) h4)⟩
  | succ m ih =>
    intro fuel i pt h1 h2 h3 h4
    cases fuel with
    | zero => exact absurd h1 (Nat.not_lt_zero _)
    | succ fuel =>
      by_cases hi : i ∈ slots
      · obtain ⟨j, h5, h6, h7⟩ := ih fuel ((i * 5 + 1) % 8) 0 (by omega) (by decide) (Nat.mod_lt _ (by decide)) h4
        refine ⟨j, h5, h6, ?_⟩
        unfold SetTable.layClean.free
        have hr : SetTable.runEnd 7 i + 1 - i = 1 := by unfold SetTable.runEnd; rw [if_neg (by omega)]; omega
        have : (List.range (SetTable.runEnd 7 i + 1 - i)).find? (fun k => (owner.getD (i + k) (some 0)).isNone) = none := by
          rw [hr]
          rw [show List.range 1 = [0] from rfl, List.find?_cons, Nat.add_zero, ow_some O hi]
          rfl
        rw [this]
        unfold SetTable.leap
        dsimp only
        rw [Nat.div_eq_of_lt h2]
        exact h7
      · exact ⟨i, h3, hi, free_one (ow_none O (Nat.le_of_lt_succ h3) hi)⟩
def layStep (mask : Nat) (acc : Option (Array (Option Nat) × Nat)) (h : Int) : Option (Array (Option Nat) × Nat) := do
  let (owner, k) ← acc
  let j ← SetTable.layClean.free mask owner (SetTable.turns mask) (SetTable.bits h % (mask + 1)) (SetTable.bits h)
  pure (owner.setIfInBounds j (some k), k + 1)
theorem layClean_eq (mask : Nat) (hs : Array Int) : SetTable.layClean mask hs = (hs.toList.foldl (layStep mask) (some (Array.replicate (mask + 1) none, 0))).map (·.1) := by
  unfold SetTable.layClean
  rw [← Array.foldl_toList]
  rfl
theorem lay_fold {mask : Nat} (hm : mask = 7 ∨ 15 ≤ mask) : ∀ (rest done : List Nat) (owner : Array (Option Nat)) (slots : List Nat), OwI mask owner slots → slots.length = done.length → (15 ≤ mask → slots = done) → (done ++ rest).Nodup → (∀ k ∈ done ++ rest, k < 16) → (mask = 7 → (done ++ rest).length ≤ 8) →
    ∃ owner' slots', (rest.map fun (k : Nat) => (k : Int)).foldl (layStep mask) (some (owner, done.length)) = some (owner', (done ++ rest).length) ∧ OwI mask owner' slots' ∧ slots'.length = (done ++ rest).length ∧ (15 ≤ mask → slots' = done ++ rest) := by
  intro rest
  induction rest with
  | nil => intro done owner slots O h1 h2 _ _ _; exact ⟨owner, slots, by rw [List.append_nil]; rfl, O, by rw [List.append_nil]; exact h1, by rw [List.append_nil]; exact h2⟩
  | cons k rest ih =>
    intro done owner slots O h1 h2 hnd hlt h8
    have hk : k < 16 := hlt k (by simp)
    have hkd : k ∉ done := fun q => (List.nodup_append.mp hnd).2.2 k q k (.head _) rfl
    have hfree : ∃ j, SetTable.layClean.free mask owner (SetTable.turns mask) (SetTable.bits (k : Int) % (mask + 1)) (SetTable.bits (k : Int)) = some j ∧ j ≤ mask ∧ j ∉ slots ∧ (15 ≤ mask → j = k) := by
      rw [bits_small hk]
      rcases hm with rfl | hm
      · obtain ⟨m, hm8, hfree⟩ := few_free (l := slots) O.nd (fun x hx => by have := O.le x hx; omega) (by have := h8 rfl; rw [List.length_append, List.length_cons] at this; omega) (k % 8) (Nat.mod_lt _ (by decide))
        obtain ⟨j, h3, h4, h5⟩ := free_seven O m (SetTable.turns 7) (k % 8) k (by unfold SetTable.turns; omega) (by omega) (Nat.mod_lt _ (by decide)) hfree
        exact ⟨j, h5, by omega, h4, fun q => absurd q (by decide)⟩
      · have hs := h2 hm
        subst hs
        rw [Nat.mod_eq_of_lt (by omega)]
        exact ⟨k, free_one (ow_none O (by omega) hkd), by omega, hkd, fun _ => rfl⟩
    obtain ⟨j, h3, h4, h5, h6⟩ := hfree
    have O' := ow_put O h4 h5
    have hcat : done ++ k :: rest = (done ++ [k]) ++ rest := by simp
    obtain ⟨owner', slots', r1, r2, r3, r4⟩ := ih (done ++ [k]) _ _ O' (by simp [h1]) (fun q => by rw [h2 q, h6 q]) (by rw [← hcat]; exact hnd) (by rw [← hcat]; exact hlt) (by rw [← hcat]; exact h8)
    refine ⟨owner', slots', ?_, r2, by rw [r3, hcat], fun q => by rw [r4 q, hcat]⟩
    rw [List.map_cons, List.foldl_cons, hcat, ← r1]
    congr 1
    show (do let j ← SetTable.layClean.free mask owner (SetTable.turns mask) (SetTable.bits (k : Int) % (mask + 1)) (SetTable.bits (k : Int)); pure (owner.setIfInBounds j (some done.length), done.length + 1)) = _
    rw [h3, h1]
    simp
theorem laid_ok {mask : Nat} (hm : mask = 7 ∨ 15 ≤ mask) {ks : List Nat} (hnd : ks.Nodup) (hlt : ∀ k ∈ ks, k < 16) (h8 : mask = 7 → ks.length ≤ 8) (fg mv : Nat) (led pl : Bool) :
    ∃ pls ord : List Nat, SetTable.laid mask fg mv led pl (ks.map fun (k : Nat) => (k : Int)).toArray = some ({ mask, place := pls.toArray, dummies := #[], finger := fg, led, moves := mv, plain := pl }, ord.toArray) ∧ pls.Pairwise (· < ·) ∧ (∀ p ∈ pls, p ≤ mask) ∧ ord.Perm (List.range ks.length) ∧ pls.length = ks.length ∧ (15 ≤ mask → pls = ord.map fun i => ks.getD i 0) := by
  have O0 : OwI mask (Array.replicate (mask + 1) none) [] := ⟨by simp, List.nodup_nil, (fun _ h => nomatch h), fun j i => by
    rw [Array.getD_eq_getD_getElem?, Array.getElem?_replicate]
    split <;> simp⟩
  obtain ⟨owner, slots, h1, O, h2, h3⟩ := lay_fold hm ks [] _ [] O0 rfl (fun _ => rfl) hnd hlt h8
  rw [List.nil_append] at h1 h2 h3
  have hl : SetTable.layClean mask (ks.map fun (k : Nat) => (k : Int)).toArray = some owner := by
    rw [layClean_eq]
    have h1' : List.foldl (layStep mask) (some (Array.replicate (mask + 1) none, 0)) (ks.map fun (k : Nat) => (k : Int)) = some (owner, ks.length) := h1
    rw [List.toList_toArray, h1']
    rfl
  have hmem : ∀ j i, (j, i) ∈ ((List.range (mask + 1)).filterMap fun j => (owner.getD j none).map (j, ·)) ↔ slots[i]? = some j := by
    intro j i
    rw [List.mem_filterMap]
    constructor
    · rintro ⟨j', _, e⟩
      obtain ⟨i', e1, e2⟩ := Option.map_eq_some_iff.mp e
      cases e2
      exact (O.at_ j i).mp e1
    · intro e
      exact ⟨j, List.mem_range.mpr (by have := O.le j (List.mem_of_getElem? e); omega), by rw [(O.at_ j i).mpr e]; rfl⟩
  have hpw : ((List.range (mask + 1)).filterMap fun j => (owner.getD j none).map (j, ·)).Pairwise fun a b => a.1 < b.1 := by
    refine List.pairwise_filterMap.mpr (List.pairwise_lt_range.imp fun {a b} hab x hx y hy => ?_)
    obtain ⟨_, _, rfl⟩ := Option.map_eq_some_iff.mp hx
    obtain ⟨_, _, rfl⟩ := Option.map_eq_some_iff.mp hy
    exact hab
  generalize hlive : ((List.range (mask + 1)).filterMap fun j => (owner.getD j none).map (j, ·)) = live at hmem hpw
  have hord : (live.map (·.2)).Perm (List.range ks.length) := by
    refine (List.perm_ext_iff_of_nodup ?_ List.nodup_range).mpr fun i => ?_
    · refine List.pairwise_map.mpr (hpw.imp_of_mem fun {a b} ha hb hab q => ?_)
      have e1 := (hmem a.1 a.2).mp ha
      have e2 := (hmem b.1 b.2).mp hb
      rw [q, e2] at e1
      have := Option.some_inj.mp e1
      omega
    · rw [List.mem_map, List.mem_range, ← h2]
      constructor
      · rintro ⟨p, hp, rfl⟩
        exact (List.getElem?_eq_some_iff.mp ((hmem p.1 p.2).mp hp)).1
      · intro hi
        exact ⟨(slots[i], i), (hmem _ _).mpr (List.getElem?_eq_getElem hi), rfl⟩
  refine ⟨live.map (·.1), live.map (·.2), ?_, List.pairwise_map.mpr hpw, fun p hp => ?_, hord, ?_, fun q => ?_⟩
  · unfold SetTable.laid
    rw [hl]
    show some _ = _
    rw [hlive]
  · obtain ⟨x, hx, rfl⟩ := List.mem_map.mp hp
    exact O.le _ (List.mem_of_getElem? ((hmem x.1 x.2).mp hx))
  · have := hord.length_eq
    rw [List.length_map, List.length_range] at this
    rw [List.length_map, this]
  · rw [List.map_map]
    refine List.map_congr_left fun x hx => ?_
    have e := (hmem x.1 x.2).mp hx
    rw [h3 q] at e
    show x.1 = ks.getD x.2 0
    rw [List.getD_eq_getElem?_getD, e]
    rfl
/-- a set's elements, their hashes the keys -/
def EnOk (l : List (Int × Value)) (ks : List Nat) : Prop := l.map (·.1) = ks.map (fun (k : Nat) => (k : Int)) ∧ ∀ e ∈ l, ∃ tk, e.2 = .int e.1 tk
theorem EnOk.len {l : List (Int × Value)} {ks : List Nat} (h : EnOk l ks) : l.length = ks.length := by
  have := congrArg List.length h.1
  simpa using this
theorem EnOk.reorder {es : Array (Int × Value)} {ks ord : List Nat} (h : EnOk es.toList ks) (hp : ord.Perm (List.range ks.length)) :
    (ord.toArray.filterMap (es[·]?)).toList.Perm es.toList ∧ EnOk (ord.toArray.filterMap (es[·]?)).toList (ord.map fun i => ks.getD i 0) ∧ (ord.map fun i => ks.getD i 0).Perm ks := by
  have e1 : (ord.toArray.filterMap (es[·]?)).toList = ord.filterMap fun i => es.toList[i]? := by
    rw [Array.toList_filterMap]
    simp
  have hr : ∀ {α : Type} (l : List α), (List.range l.length).filterMap (fun i => l[i]?) = l := by
    intro α l
    induction l with
    | nil => rfl
    | cons a r ih =>
      rw [List.length_cons, List.range_succ_eq_map, List.filterMap_cons, List.filterMap_map]
      show a :: List.filterMap (fun i => r[i]?) _ = _
      rw [ih]
  have hperm : (ord.filterMap fun i => es.toList[i]?).Perm es.toList := by
    have := hp.filterMap (fun i => es.toList[i]?)
    rw [← h.len, hr] at this
    exact this
  have hlt : ∀ i ∈ ord, i < ks.length := fun i hi => List.mem_range.mp (hp.mem_iff.mp hi)
  refine ⟨by rw [e1]; exact hperm, ⟨?_, fun e he => h.2 e (hperm.mem_iff.mp (by rw [← e1]; exact he))⟩, ?_⟩
  · rw [e1, List.map_filterMap, List.map_map]
    have : ∀ i ∈ ord, (es.toList[i]?).map (·.1) = some ((fun (k : Nat) => (k : Int)) (ks.getD i 0)) := fun i hi => by
      have hi' := hlt i hi
      have e2 := congrArg (fun l => l[i]?) h.1
      rw [List.getElem?_map, List.getElem?_map] at e2
      rw [e2, List.getD_eq_getElem?_getD, List.getElem?_eq_getElem hi']
      rfl
    clear hperm e1 hp
    induction ord with
    | nil => rfl
    | cons i r ih =>
      rw [List.filterMap_cons, this i (.head _), List.map_cons, ih (fun j hj => hlt j (.tail _ hj)) (fun j hj => this j (.tail _ hj))]
      rfl
  · have h3 : (ord.map fun i => ks.getD i 0).Perm ((List.range ks.length).map fun i => ks.getD i 0) := hp.map _
    have h4 : ((List.range ks.length).map fun i => ks.getD i 0) = ks := by
      refine List.ext_getElem (by simp) fun i h1 h2 => ?_
      simp at h1
      simp [h1]
    rw [h4] at h3
    exact h3
end
section
open PySem PySem.W PyProof.Rows PySem.Spec PySem.Calls
set_option maxRecDepth 100000
set_option maxHeartbeats 1000000
theorem fits_of {t : SetTable} {ks : List Nat} (T : TabOk t ks) : t.fits ks.length = true := by
  have := T.ro
  unfold SetTable.fits SetTable.fill
  rw [T.sz, T.du]
  simp
  omega
theorem laid_tab {mask : Nat} (hm : mask = 7 ∨ 15 ≤ mask) {ks : List Nat} (hnd : ks.Nodup) (hlt : ∀ k ∈ ks, k < 16) (hro : 5 * ks.length < 3 * mask) {es : Array (Int × Value)} (E : EnOk es.toList ks) (fg mv : Nat) (led : Bool) :
    ∃ t' ord, SetTable.laid mask fg mv led true (es.map (·.1)) = some (t', List.toArray ord) ∧ TabOk t' (ord.map fun i => ks.getD i 0) ∧ t'.led = led ∧ t'.mask = mask ∧ ord.Perm (List.range ks.length) ∧ t'.fits ks.length = true := by
  obtain ⟨pls, ord, h1, h2, h3, h4, h5, h6⟩ := laid_ok hm hnd hlt (fun q => by omega) fg mv led true
  have he : es.map (·.1) = (ks.map fun (k : Nat) => (k : Int)).toArray := by
    apply Array.toList_inj.mp
    rw [Array.toList_map, E.1]
  have hp := (E.reorder h4).2.2
  have hT : TabOk { mask, place := pls.toArray, dummies := #[], finger := fg, led, moves := mv, plain := true } (ord.map fun i => ks.getD i 0) :=
    ⟨⟨rfl, rfl, by rw [hp.length_eq, List.size_toArray, h5], h2, h3, hp.nodup_iff.mpr hnd, fun k hk => hlt k (hp.mem_iff.mp hk), hm.imp id fun q => ⟨q, h6 q⟩⟩, by rw [hp.length_eq]; exact hro⟩
  exact ⟨_, ord, by rw [he, h1], hT, rfl, rfl, h4, by rw [← hp.length_eq]; exact fits_of hT⟩
theorem grown_ok : ∀ n : Fin 17, 5 ≤ n.val → 15 ≤ SetTable.sizeAbove (SetTable.grown n.val) - 1 ∧ 5 * n.val < 3 * (SetTable.sizeAbove (SetTable.grown n.val) - 1) := by decide
theorem relay_ok {t : SetTable} {ks : List Nat} {es : Array (Int × Value)} (T : TabR t ks) (E : EnOk es.toList ks) (h5 : 5 ≤ ks.length) (h16 : ks.length ≤ 16) :
    ∃ es' t' ks', relayAll t es (SetTable.grown es.size) = (es', t', false) ∧ TabOk t' ks' ∧ EnOk es'.toList ks' ∧ ks'.Perm ks ∧ t'.led = t.led := by
  have hsz : es.size = ks.length := by rw [← E.len, Array.length_toList]
  obtain ⟨g1, g2⟩ := grown_ok ⟨ks.length, by omega⟩ h5
  dsimp only at g1 g2
  obtain ⟨t', ord, h1, h2, h3, h4, h6, h7⟩ := laid_tab (.inr g1) T.nd T.lt g2 E t.finger (t.movedTo (SetTable.sizeAbove (SetTable.grown ks.length) - 1)) t.led
  obtain ⟨p1, p2, p3⟩ := E.reorder h6
  refine ⟨_, t', _, ?_, h2, p2, p3, h3⟩
  unfold relayAll
  have hr : t.relaid (es.map (·.1)) (SetTable.grown es.size) = some (t', ord.toArray) := by
    unfold SetTable.relaid
    rw [T.pl, hsz]
    exact h1
  rw [hr]
  dsimp only
  have hc : coversAll ord.toArray es.size = true := by
    unfold coversAll
    rw [List.toList_toArray, hsz]
    exact List.isPerm_iff.mpr h6
  have hsz' : (ord.toArray.filterMap (es[·]?)).size = ks.length := by
    rw [← Array.length_toList, p1.length_eq, Array.length_toList, hsz]
  rw [hc, hsz', h7]
  rfl
theorem room_ok : ∀ m : Fin 33, 5 ≤ m.val → 15 ≤ SetTable.sizeAbove (m.val * 2) - 1 ∧ 5 * m.val < 3 * (SetTable.sizeAbove (m.val * 2) - 1) ∧ SetTable.sizeAbove (m.val * 2) ≤ 128 := by decide
theorem pick_go {α : Type} (next : Nat → Nat) : ∀ (fuel k : Nat) (left : List α) (out : Array α), left.length ≤ fuel → ∃ r : List α, (pickOrder.go next fuel k left out).toList = out.toList ++ r ∧ r.Perm left := by
  intro fuel
  induction fuel with
  | zero =>
    intro k left out h
    have : left = [] := List.eq_nil_of_length_eq_zero (Nat.le_zero.mp h)
    subst this
    exact ⟨[], by unfold pickOrder.go; simp, .nil⟩
  | succ fuel ih =>
    intro k left out h
    unfold pickOrder.go
    cases hl : left[next k % left.length]? with
    | none =>
      have hlen : left.length = 0 := by
        rcases Nat.eq_zero_or_pos left.length with q | q
        · exact q
        · have := List.getElem?_eq_none_iff.mp hl
          have := Nat.mod_lt (next k) q
          omega
      have : left = [] := List.eq_nil_of_length_eq_zero hlen
      subst this
      exact ⟨[], by simp, .nil⟩
    | some x =>
      obtain ⟨hi, hx⟩ := List.getElem?_eq_some_iff.mp hl
      obtain ⟨r, h1, h2⟩ := ih (k + 1) (left.eraseIdx (next k % left.length)) (out.push x) (by rw [List.length_eraseIdx, if_pos hi]; omega)
      refine ⟨x :: r, by rw [h1, Array.toList_push]; simp, ?_⟩
      have hs : left = left.take (next k % left.length) ++ x :: left.drop (next k % left.length + 1) := by
        conv => lhs; rw [← List.take_append_drop (next k % left.length) left]
        congr 1
        rw [List.drop_eq_getElem_cons hi, hx]
      rw [List.eraseIdx_eq_take_drop_succ] at h2
      refine (List.Perm.cons x h2).trans ?_
      conv => rhs; rw [hs]
      exact List.perm_middle.symm
theorem pick_perm {α : Type} (next : Nat → Nat) (xs : Array α) : (pickOrder next xs).toList.Perm xs.toList := by
  obtain ⟨r, h1, h2⟩ := pick_go next xs.size 0 xs.toList #[] (by simp)
  unfold pickOrder
  rw [h1]
  simpa using h2
/-- the elements in the order of a walk -/
def walkL (w : World) (a : Addr) (ep : Nat) (es : Array (Int × Value)) : List (Int × Value) := if w.params.followText "set-order" = true then (pickOrder (w.params.setOrder a ep) es).toList else es.toList
theorem walk_perm (w : World) (a : Addr) (ep : Nat) (es : Array (Int × Value)) : (walkL w a ep es).Perm es.toList := by
  unfold walkL
  split
  · exact pick_perm _ _
  · exact .refl _
abbrev sob (es : Array (Int × Value)) (ep : Nat) (t : SetTable) : Obj := { cls := .type "set", dict := none, data := .set es ep t }
/-- the object of a set of ints from 0 to 15 -/
def SetX (tx : Bool) (o : Obj) (ks : List Nat) : Prop := ∃ es ep t, o = sob es ep t ∧ EnOk es.toList ks ∧ TabOk t ks ∧ (tx = false → t.led = true)
end
section
open PySem PySem.W PyProof.Rows PySem.Spec PySem.Calls
set_option maxRecDepth 100000
set_option maxHeartbeats 1000000
abbrev Led := List (Addr × Obj)
/-- the ledger: objects that are never written again; the addresses of a frame's own lists -/
structure Lg where
  led : Led
  ow : List Addr
abbrev lob (vs : List Value) (n : Nat) : Obj := { cls := .type "list", data := .seq vs.toArray n }
abbrev tob (vs : List Value) (n : Nat) : Obj := { cls := .type "tuple", data := .seq vs.toArray n }
abbrev rob (a b c : Int) (t u v : Tok) : Obj := { cls := .type "range", data := .fields #[.int a t, .int b u, .int c v] }

inductive D where
  | none | bool (b : Bool) | int (i : Int) | str (s : Str) | list (l : List D) | tup (l : List D) | range (a b c : Int) | own (k : Nat) | set (tx : Bool) (m : Nat)

mutual
inductive Rep (L : Lg) : Value → D → Prop
  | none : Rep L .none .none
  | bool (b : Bool) : Rep L (.bool b) (.bool b)
  | int (i : Int) (t : Tok) : Rep L (.int i t) (.int i)
  | str (s : Str) (t : Tok) : Rep L (.str s t) (.str s)
  | list {a : Addr} {vs : List Value} {n : Nat} {ds : List D} : (a, lob vs n) ∈ L.led → Reps L vs ds → Rep L (.ref a) (.list ds)
  | tup {a : Addr} {vs : List Value} {n : Nat} {ds : List D} : (a, tob vs n) ∈ L.led → Reps L vs ds → Rep L (.ref a) (.tup ds)
  | range {r : Addr} {a b c : Int} {t u v : Tok} : (r, rob a b c t u v) ∈ L.led → Rep L (.ref r) (.range a b c)
  | own {k : Nat} {a : Addr} : L.ow[k]? = some a → Rep L (.ref a) (.own k)
  | set {a : Addr} {o : Obj} {ks : List Nat} {tx : Bool} {m : Nat} : (a, o) ∈ L.led → SetX tx o ks → (∀ k, k ∈ ks ↔ m.testBit k = true) → Rep L (.ref a) (.set tx m)
inductive Reps (L : Lg) : List Value → List D → Prop
  | nil : Reps L [] []
  | cons {v : Value} {d : D} {vs : List Value} {ds : List D} : Rep L v d → Reps L vs ds → Reps L (v :: vs) (d :: ds)
end
structure Lg.le (L L' : Lg) : Prop where
  led : ∀ p ∈ L.led, p ∈ L'.led
  ow : ∀ (k : Nat) (a : Addr), L.ow[k]? = some a → L'.ow[k]? = some a
theorem Lg.le.refl (L : Lg) : L.le L := ⟨fun _ h => h, fun _ _ h => h⟩
theorem Rep.mono {L L' : Lg} (hs : L.le L') {v : Value} {d : D} (r : Rep L v d) : Rep L' v d :=
  Rep.rec (motive_1 := fun v d _ => Rep L' v d) (motive_2 := fun vs ds _ => Reps L' vs ds) .none (fun b => .bool b) (fun i t => .int i t) (fun x t => Rep.str x t) (fun h _ ih => .list (hs.led _ h) ih) (fun h _ ih => .tup (hs.led _ h) ih) (fun h => .range (hs.led _ h)) (fun h => .own (hs.ow _ _ h)) (fun h x y => .set (hs.led _ h) x y) .nil (fun _ _ ih ih2 => .cons ih ih2) r
theorem Reps.mono {L L' : Lg} (hs : L.le L') {vs : List Value} {ds : List D} (r : Reps L vs ds) : Reps L' vs ds := by
  induction vs generalizing ds with
  | nil => cases r; exact .nil
  | cons v vs ih => cases r with
    | cons h r => exact .cons (h.mono hs) (ih r)
theorem Reps.length {L : Lg} {vs : List Value} {ds : List D} (r : Reps L vs ds) : vs.length = ds.length := by
  induction vs generalizing ds with
  | nil => cases r; rfl
  | cons v vs ih => cases r with
    | cons h r => exact congrArg Nat.succ (ih r)
theorem Reps.get {L : Lg} {vs : List Value} {ds : List D} (r : Reps L vs ds) {i : Nat} {d : D} (e : ds[i]? = some d) : ∃ v, vs[i]? = some v ∧ Rep L v d := by
  induction vs generalizing ds i with
  | nil => cases r; cases e
  | cons v vs ih => cases r with
    | cons h r =>
      cases i with
      | zero => exact ⟨v, rfl, Option.some.inj e ▸ h⟩
      | succ i => exact ih r e
theorem Reps.append {L : Lg} {vs us : List Value} {ds es : List D} (r : Reps L vs ds) (q : Reps L us es) : Reps L (vs ++ us) (ds ++ es) := by
  induction vs generalizing ds with
  | nil => cases r; exact q
  | cons v vs ih => cases r with
    | cons h r => exact .cons h (ih r)
theorem Rep.ints1 {L : Lg} {v : Value} {i : Int} (r : Rep L v (.int i)) : ∃ t, v = .int i t := by cases r; exact ⟨_, rfl⟩
theorem Reps.ints {L : Lg} {vs : List Value} {ns : List Int} (r : Reps L vs (ns.map D.int)) : IntsAre vs ns := by
  induction ns generalizing vs with
  | nil => cases r; exact .nil
  | cons a ns ih => cases r with
    | cons h r =>
      obtain ⟨t, rfl⟩ := h.ints1
      exact .cons a t (ih r)
theorem Reps.of_ints {L : Lg} {vs : List Value} {ns : List Int} (h : IntsAre vs ns) : Reps L vs (ns.map D.int) := by
  induction h with
  | nil => exact .nil
  | cons n t _ ih => exact .cons (.int n t) ih

def dataOk (o : Obj) : Bool := match o.data with
  | .seq .. => true
  | .set .. => true
  | .fields .. => true
  | _ => false

structure Kp (fs : List Addr) (h h' : Heap) : Prop where
  same : ∀ b o, h.get? b = some o → b ∉ fs → h'.get? b = some o
  slot : ∀ b o, h.get? b = some o → b ∈ fs → ∃ sl, h'.get? b = some { o with slots := sl }
theorem Kp.refl (fs : List Addr) (h : Heap) : Kp fs h h := ⟨fun _ _ e _ => e, fun _ o e _ => ⟨o.slots, e⟩⟩
theorem Kp.up {fs : List Addr} {h h' : Heap} (k : Kp fs h h') {b : Addr} {o : Obj} (e : h.get? b = some o) : ∃ sl, h'.get? b = some { o with slots := sl } := by
  by_cases m : b ∈ fs
  · exact k.slot b o e m
  · exact ⟨o.slots, k.same b o e m⟩
theorem Kp.trans {fs : List Addr} {h h1 h2 : Heap} (x : Kp fs h h1) (y : Kp fs h1 h2) : Kp fs h h2 :=
  ⟨fun b o e m => y.same b o (x.same b o e m) m, fun b o e m => by
    obtain ⟨s1, e1⟩ := x.slot b o e m
    obtain ⟨s2, e2⟩ := y.slot b _ e1 m
    exact ⟨s2, e2⟩⟩
theorem Kp.none {fs : List Addr} {h h' : Heap} (k : Kp fs h h') {b : Addr} (e : h'.get? b = .none) : h.get? b = .none := by
  cases q : h.get? b with
  | none => rfl
  | some o => obtain ⟨sl, e'⟩ := k.up q; rw [e] at e'; cases e'
theorem Kp.of_keep {fs : List Addr} {h h' : Heap} (k : ∀ b o, h.get? b = some o → h'.get? b = some o) : Kp fs h h' :=
  ⟨fun b o e _ => k b o e, fun b o e _ => ⟨o.slots, k b o e⟩⟩
theorem Kp.push (fs : List Addr) (h : Heap) (o : Obj) : Kp fs h (h.push o) := .of_keep (fun _ _ e => Heap.get?_push_of_some _ e)
theorem Kp.ns {fs : List Addr} {h h' : Heap} (k : Kp fs h h') {L : Addr} {m : Str → Option Value} (n : h.Ns L m) : h'.Ns L m := by
  obtain ⟨o, es, ep, e, hd, r⟩ := n
  obtain ⟨sl, e'⟩ := k.up e
  exact ⟨_, es, ep, e', hd, r⟩
theorem Kp.sub {fs fs' : List Addr} {h h' : Heap} (k : Kp fs' h h') (hs : ∀ b o, h.get? b = some o → b ∈ fs' → b ∈ fs) : Kp fs h h' :=
  ⟨fun b o e m => k.same b o e fun q => m (hs b o e q), fun b _ e _ => k.up e⟩

def Stk (base : Heap) (A : Around) (fs : List Addr) (h : Heap) : Prop :=
  ∃ l frs, A.frames = some l ∧ TI.Frs l frs ∧ frs.map (·.1) = fs ∧ ∀ p ∈ frs, h.get? p.1 = some p.2 ∧ base.get? p.1 = none
theorem sameUp_addr : ∀ {a b : List (Addr × Obj)}, TI.SameUp a b → b.map (·.1) = a.map (·.1)
  | [], [], _ => rfl
  | _ :: _, _ :: _, ⟨h1, _, h3⟩ => by rw [List.map_cons, List.map_cons, h1, sameUp_addr h3]
  | [], _ :: _, h => h.elim
  | _ :: _, [], h => h.elim
theorem Stk.kp {base : Heap} {A : Around} {fs : List Addr} {h h' : Heap} (s : Stk base A fs h) (k : Kp fs h h') : Stk base A fs h' := by
  obtain ⟨l, frs, hA, F, e, hg⟩ := s
  obtain ⟨frs', SU, hg'⟩ := TI.sameUp_of (h' := h') (frs := frs) fun p hp => k.up (hg p hp).1
  refine ⟨l, frs', hA, F.up SU, (sameUp_addr SU).trans e, fun q hq => ⟨hg' q hq, ?_⟩⟩
  obtain ⟨p, hp, e'⟩ := SU.fwd q hq
  rw [e']
  exact (hg p hp).2
theorem Stk.dict {base : Heap} {A : Around} {fs : List Addr} {h : Heap} (s : Stk base A fs h) {b : Addr} (hb : b ∈ fs) : base.get? b = none ∧ ∃ o es ep, h.get? b = some o ∧ o.data = .dict es ep := by
  obtain ⟨l, frs, hA, F, e, hg⟩ := s
  rw [← e] at hb
  obtain ⟨p, hp, rfl⟩ := List.mem_map.mp hb
  obtain ⟨es, ep, hd⟩ := F.dict p hp
  exact ⟨(hg p hp).2, p.2, es, ep, (hg p hp).1, hd⟩
theorem frs_re {h' : Heap} {l : List Env} : ∀ {frs : List (Addr × Obj)}, TI.Frs l frs → (∀ p ∈ frs, ∃ o es ep, h'.get? p.1 = some o ∧ o.data = .dict es ep) →
    ∃ frs', TI.Frs l frs' ∧ frs'.map (·.1) = frs.map (·.1) ∧ ∀ q ∈ frs', h'.get? q.1 = some q.2 := by
  induction l with
  | nil =>
    intro frs h hs
    cases frs with
    | nil => exact ⟨[], trivial, rfl, fun _ h => nomatch h⟩
    | cons _ _ => exact h.elim
  | cons env l ih =>
    intro frs h hs
    cases frs with
    | nil => exact h.elim
    | cons p frs =>
      obtain ⟨h1, h2, _, h4⟩ := h
      obtain ⟨o, es, ep, e1, e2⟩ := hs p (.head _)
      obtain ⟨frs', f1, f2, f3⟩ := ih h4 fun q hq => hs q (.tail _ hq)
      refine ⟨(p.1, o) :: frs', ⟨h1, h2, ⟨es, ep, e2⟩, f1⟩, by rw [List.map_cons, List.map_cons, f2], fun q hq => ?_⟩
      rcases List.mem_cons.mp hq with rfl | hq
      · exact e1
      · exact f3 q hq
theorem Stk.re {base : Heap} {A : Around} {fs : List Addr} {h h' : Heap} (s : Stk base A fs h) (hs : ∀ b ∈ fs, ∃ o es ep, h'.get? b = some o ∧ o.data = .dict es ep) : Stk base A fs h' := by
  have s' := s
  obtain ⟨l, frs, hA, F, e, hg⟩ := s
  obtain ⟨frs', f1, f2, f3⟩ := frs_re (h' := h') F fun p hp => hs p.1 (e ▸ List.mem_map_of_mem hp)
  refine ⟨l, frs', hA, f1, f2.trans e, fun q hq => ⟨f3 q hq, (s'.dict (b := q.1) ?_).1⟩⟩
  rw [← e, ← f2]
  exact List.mem_map_of_mem hq

structure Wd where
  prog : Program
  w : World
  base : Heap
  K : Frag
  mg : Str → Option Value
  mb : Str → Option Value
  g : base.Ns mainGlobals mg
  b : base.Ns builtinsNs mb
  bb : ∀ x : Str, x ≠ "__name__" → mb x = bootBuiltins x
  X : K.In base
  nolim : base.NoLimit
  quiet : Bool := true
abbrev Wd.M (W : Wd) : Model := model W.prog W.w

/-- no exception is being handled -/
class Quiet (W : Wd) : Prop where
  q : W.quiet = true
/-- lists of the ledger are none of the base's -/
def NB (base : Heap) (L : Lg) : Prop := (∀ p ∈ L.led, p.2.cls = .type "list" → base.get? p.1 = none) ∧ ∀ a ∈ L.ow, base.get? a = none
theorem NB.cons {base : Heap} {L : Lg} {a : Addr} {o : Obj} (x : NB base L) (h : base.get? a = none) : NB base ⟨(a, o) :: L.led, L.ow⟩ :=
  ⟨fun p hp c => (List.mem_cons.mp hp).elim (fun q => by rw [q]; exact h) fun q => x.1 p q c, x.2⟩
theorem NB.sub {base : Heap} {L L' : Lg} (x : NB base L) (h1 : ∀ p ∈ L'.led, p ∈ L.led) (h2 : ∀ a ∈ L'.ow, a ∈ L.ow) : NB base L' := ⟨fun p hp c => x.1 p (h1 p hp) c, fun a ha => x.2 a (h2 a ha)⟩
/-- what holds at every step, whatever the environment -/
structure HI (W : Wd) (n : Nat) (A : Around) (fs : List Addr) (h : Heap) (L : Lg) : Prop where
  handled : W.quiet = true → A.handled = none
  room : A.depth + n < recursionLimit
  units : A.units + 8 * n + 16 < cLine
  stk : Stk W.base A fs h
  base : W.base.StaysIn h
  led : ∀ p ∈ L.led, h.get? p.1 = some p.2 ∧ dataOk p.2 = true
  nb : NB W.base L
theorem HI.fresh {W : Wd} {n : Nat} {A : Around} {fs : List Addr} {h : Heap} {L : Lg} (H : HI W n A fs h L) {a : Addr} (hn : h.get? a = none) : W.base.get? a = none := by
  cases q : W.base.get? a with
  | none => rfl
  | some o => rw [H.base _ _ q] at hn; cases hn
theorem off_data {base : Heap} {A : Around} {fs : List Addr} {h : Heap} (s : Stk base A fs h) {b : Addr} {o : Obj} (e : h.get? b = some o) (hd : dataOk o = true) : b ∉ fs := fun hb => by
  obtain ⟨_, o', es, ep, e', hd'⟩ := s.dict hb
  rw [e] at e'
  cases e'
  unfold dataOk at hd
  rw [hd'] at hd
  cases hd
theorem off_base {base : Heap} {A : Around} {fs : List Addr} {h : Heap} (s : Stk base A fs h) {b : Addr} {o : Obj} (e : base.get? b = some o) : b ∉ fs := fun hb => by
  rw [(s.dict hb).1] at e
  cases e
/-- new entries of the ledger -/
def More (h : Heap) (L L' : Lg) : Prop := ∃ add : Led, L' = ⟨add ++ L.led, L.ow⟩ ∧ ∀ p ∈ add, h.get? p.1 = .none
theorem More.refl {h : Heap} {L : Lg} : More h L L := ⟨[], rfl, fun _ hp => nomatch hp⟩
theorem More.trans {h h' : Heap} {L L' L'' : Lg} (x : More h L L') (z : ∀ b, h'.get? b = .none → h.get? b = .none) (y : More h' L' L'') : More h L L'' := by
  obtain ⟨a, rfl, ha⟩ := x
  obtain ⟨b, rfl, hb⟩ := y
  exact ⟨b ++ a, by rw [List.append_assoc], fun p hp => (List.mem_append.mp hp).elim (fun q => z _ (hb p q)) (ha p)⟩
theorem More.le {h : Heap} {L L' : Lg} (x : More h L L') : L.le L' := by
  obtain ⟨a, rfl, _⟩ := x
  exact ⟨fun _ => List.mem_append_right _, fun _ _ h => h⟩
structure Arr (W : Wd) (n : Nat) (A : Around) (fs : List Addr) (h : Heap) (L : Lg) (h' : Heap) (L' : Lg) : Prop where
  hi : HI W n A fs h' L'
  kp : Kp fs h h'
  more : More h L L'
section
variable {W : Wd} {n : Nat} {A : Around} {fs : List Addr} {h h' h'' : Heap} {L L' L'' : Lg}
theorem HI.kp (H : HI W n A fs h L) (k : Kp fs h h') : HI W n A fs h' L :=
  ⟨H.handled, H.room, H.units, H.stk.kp k, fun b o e => k.same b o (H.base b o e) (off_base H.stk e), fun p hp => ⟨k.same _ _ (H.led p hp).1 (off_data H.stk (H.led p hp).1 (H.led p hp).2), (H.led p hp).2⟩, H.nb⟩
theorem Arr.refl (H : HI W n A fs h L) : Arr W n A fs h L h L := ⟨H, .refl _ _, .refl⟩
theorem Arr.trans (x : Arr W n A fs h L h' L') (y : Arr W n A fs h' L' h'' L'') : Arr W n A fs h L h'' L'' := ⟨y.hi, x.kp.trans y.kp, x.more.trans (fun _ => x.kp.none) y.more⟩
theorem Arr.le (x : Arr W n A fs h L h' L') : L.le L' := x.more.le
theorem Arr.of_kp (H : HI W n A fs h L) (k : Kp fs h h') : Arr W n A fs h L h' L := ⟨H.kp k, k, .refl⟩
theorem Arr.push {o : Obj} (H : HI W n A fs h L) (hd : dataOk o = true) (hf : o.isFreed = false) : Arr W n A fs h L (h.push o) ⟨(h.objs.size, o) :: L.led, L.ow⟩ := by
  have H' := H.kp (.push fs h o)
  refine ⟨⟨H'.handled, H'.room, H'.units, H'.stk, H'.base, fun p hp => ?_, H.nb.cons (H.fresh (Heap.get?_none_of_le (Nat.le_refl _)))⟩, .push _ _ _, [(h.objs.size, o)], rfl, fun p hp => ?_⟩
  · rcases List.mem_cons.mp hp with rfl | hp
    · exact ⟨Heap.get?_push_size _ hf, hd⟩
    · exact H'.led p hp
  · rw [List.mem_singleton.mp hp]; exact Heap.get?_none_of_le (Nat.le_refl _)
end

abbrev NoE : Value → Shared → Prop := fun _ _ => False
/-- a tree that gives back a value standing for what R says, and leaves what stood -/
def VOp (W : Wd) (n : Nat) (A : Around) (fs : List Addr) (t : Sem Value) (L : Lg) (R : Lg → Value → Prop) : Prop :=
  ∀ (s : Shared) (Q : Value → Shared → Prop), HI W n A fs s.heap L →
    (∀ v h' tk L', Arr W n A fs s.heap L h' L' → R L' v → Q v { s with heap := h', toks := tk }) → wpAny W.M A t Q NoE s
end
section
open PySem PySem.W PyProof.Rows PySem.Spec PySem.Calls
set_option maxRecDepth 100000
set_option maxHeartbeats 1000000
inductive Own where
  | list (ds : List D)
def setL {α : Type} (x : Str) (d : α) (l : List (Str × α)) : List (Str × α) := (x, d) :: l.filter fun p => p.1 != x
def getL {α : Type} (x : Str) : List (Str × α) → Option α
  | [] => none
  | p :: r => if p.1 == x then some p.2 else getL x r
theorem getL_mem {α : Type} {x : Str} {d : α} {l : List (Str × α)} (h : getL x l = some d) : (x, d) ∈ l := by
  induction l with
  | nil => cases h
  | cons p r ih =>
    unfold getL at h
    split at h
    · rename_i q; cases h; rw [← eq_of_beq q]; exact .head _
    · exact .tail _ (ih h)
theorem mem_setL {α : Type} {x : Str} {d : α} {l : List (Str × α)} {p : Str × α} (h : p ∈ setL x d l) : p = (x, d) ∨ p.1 ≠ x ∧ p ∈ l := by
  rcases List.mem_cons.mp h with rfl | h
  · exact .inl rfl
  · obtain ⟨h1, h2⟩ := List.mem_filter.mp h
    exact .inr ⟨by simpa using h2, h1⟩

structure St where
  vars : List (Str × D)
  own : List Own := []
def St.set (S : St) (x : Str) (d : D) : St := ⟨setL x d S.vars, S.own⟩

def VarAt (env : Env) (h : Heap) (x : Str) (v : Value) : Prop :=
  (env.kindOf x = some .local ∧ ∃ m, h.Ns env.locals m ∧ m x = some v) ∨
  ((env.kindOf x = some .cell ∨ env.kindOf x = some .free) ∧ ∃ c o, env.cells.lookup x = some c ∧ h.get? c = some o ∧ o.data = .cell (some v))
theorem VarAt.kp {env : Env} {fs : List Addr} {h h' : Heap} {x : Str} {v : Value} (V : VarAt env h x v) (k : Kp fs h h') : VarAt env h' x v := by
  rcases V with ⟨hk, m, hn, hv⟩ | ⟨hk, c, o, hc, ho, hd⟩
  · exact .inl ⟨hk, m, k.ns hn, hv⟩
  · obtain ⟨sl, e⟩ := k.up ho
    exact .inr ⟨hk, c, _, hc, e, hd⟩

/-- the object of an own list -/
def OwnO (L : Lg) (ob : Obj) : Own → Prop
  | .list ds => ∃ vs n, ob = lob vs n ∧ Reps L vs ds
theorem OwnO.mono {L L' : Lg} (hs : L.le L') {ob : Obj} {o : Own} (x : OwnO L ob o) : OwnO L' ob o := by
  cases o with
  | list ds => obtain ⟨vs, n, e, r⟩ := x; exact ⟨vs, n, e, r.mono hs⟩
structure Owns (lo : Nat) (fs : List Addr) (h₀ h : Heap) (L : Lg) (own : List Own) : Prop where
  len : L.ow.length = own.length
  nodup : L.ow.Nodup
  fresh : ∀ (k : Nat) (a : Addr), L.ow[k]? = some a → lo ≤ k → h₀.get? a = .none
  offs : ∀ a ∈ L.ow, a ∉ fs ∧ ∀ p ∈ L.led, p.1 ≠ a
  each : ∀ (k : Nat) (a : Addr) (o : Own), L.ow[k]? = some a → own[k]? = some o → ∃ ob, h.get? a = some ob ∧ OwnO L ob o

/-- the environment's code object stands in the base -/
def CodeOk (W : Wd) (env : Env) : Prop := ∃ c o vs, env.code = .ref c ∧ W.base.get? c = some o ∧ o.data = .fields vs
theorem code_ok {W : Wd} {cd : Value} {q : Str} (e : codeIn W.K cd q = true) : ∃ c o vs, cd = .ref c ∧ W.base.get? c = some o ∧ o.data = .fields vs := by
  unfold codeIn at e
  split at e
  · split at e
    · rename_i ho
      exact ⟨_, _, _, rfl, W.X _ _ ho, rfl⟩
    · cases e
  · cases e
structure Pre (W : Wd) (n : Nat) (A : Around) (fs : List Addr) (nm : List (Str × NameKind)) (cs : List Str) (env : Env) (h₀ : Heap) (lo : Nat) (S : St) (h : Heap) (L : Lg) : Prop where
  hi : HI W n A fs h L
  names : env.scope.names = nm
  envk : env.scope.kind = .function
  envg : env.globals = mainGlobals
  envb : env.builtins = builtinsNs ∧ CodeOk W env
  keep : Kp fs h₀ h
  loc : ∃ m, h.Ns env.locals m
  locn : h₀.get? env.locals = .none
  loco : env.locals ∉ L.ow
  bsz : ∀ b, h₀.get? b = .none → W.base.get? b = .none
  cst : ∀ x ∈ cs, ∃ c o v, env.cells.lookup x = some c ∧ h₀.get? c = .none ∧ h.get? c = some o ∧ o.data = .cell v
  cinj : ∀ x y c, env.cells.lookup x = some c → env.cells.lookup y = some c → x = y
  vars : ∀ p ∈ S.vars, ∃ v, VarAt env h p.1 v ∧ Rep L v p.2
  owns : Owns lo fs h₀ h L S.own

section
variable {W : Wd} {n : Nat} {A : Around} {fs : List Addr} {nm : List (Str × NameKind)} {cs : List Str} {env : Env} {h₀ h h' : Heap} {lo : Nat} {S : St} {L L' : Lg}
theorem Owns.arr {own : List Own} (O : Owns lo fs h₀ h L own) (a : Arr W n A fs h L h' L') : Owns lo fs h₀ h' L' own := by
  have hle := a.le
  obtain ⟨hi, kp, add, rfl, hadd⟩ := a
  refine ⟨O.len, O.nodup, O.fresh, fun b hb => ⟨(O.offs b hb).1, fun p hp => ?_⟩, fun k b o e1 e2 => ?_⟩
  · rcases List.mem_append.mp hp with hp | hp
    · intro e
      obtain ⟨k, hk⟩ := List.getElem?_of_mem hb
      have hlt : k < own.length := by rw [← O.len]; exact (List.getElem?_eq_some_iff.mp hk).1
      obtain ⟨ob, e1, _⟩ := O.each k b own[k] hk (List.getElem?_eq_getElem hlt)
      have := hadd p hp
      rw [e, e1] at this
      cases this
    · exact (O.offs b hb).2 p hp
  · obtain ⟨ob, e3, e4⟩ := O.each k b o e1 e2
    exact ⟨ob, kp.same _ _ e3 (O.offs b (List.mem_of_getElem? e1)).1, e4.mono hle⟩
theorem Pre.arr (P : Pre W n A fs nm cs env h₀ lo S h L) (a : Arr W n A fs h L h' L') : Pre W n A fs nm cs env h₀ lo S h' L' :=
  ⟨a.hi, P.names, P.envk, P.envg, P.envb, P.keep.trans a.kp, P.loc.imp fun _ => a.kp.ns, P.locn, by obtain ⟨_, _, _, rfl, _⟩ := a; exact P.loco, P.bsz, fun x hx => by
    obtain ⟨c, o, v, h1, h2, h3, h4⟩ := P.cst x hx
    obtain ⟨sl, e⟩ := a.kp.up h3
    exact ⟨c, _, v, h1, h2, e, h4⟩, P.cinj, fun p hp => by
    obtain ⟨v, V, R⟩ := P.vars p hp
    exact ⟨v, V.kp a.kp, R.mono a.le⟩, P.owns.arr a⟩
/-- fewer names -/
theorem Pre.weak {S' : St} (P : Pre W n A fs nm cs env h₀ lo S h L) (hv : ∀ p ∈ S'.vars, p ∈ S.vars) (ho : S'.own = S.own) : Pre W n A fs nm cs env h₀ lo S' h L := { P with vars := fun p hp => P.vars p (hv p hp), owns := ho ▸ P.owns }
end

/-- an expression, in an environment that bears S: it gives back what R says, and leaves what stood -/
def EvU (W : Wd) (n : Nat) (nm : List (Str × NameKind)) (cs : List Str) (S : St) (e : PySem.Expr) (R : Lg → Value → Prop) : Prop :=
  ∀ (A : Around) (fs : List Addr) (env : Env) (h₀ : Heap) (lo : Nat) (s : Shared) (L : Lg) (Q : Value → Shared → Prop), Pre W n A fs nm cs env h₀ lo S s.heap L →
    (∀ v h' tk L', Arr W n A fs s.heap L h' L' → R L' v → Q v { s with heap := h', toks := tk }) → wpAny W.M A (eval e env) Q NoE s
abbrev EvD (W : Wd) (n : Nat) (nm : List (Str × NameKind)) (cs : List Str) (S : St) (e : PySem.Expr) (d : D) : Prop := EvU W n nm cs S e fun L v => Rep L v d

section
variable {W : Wd} {n : Nat} {A : Around} {fs : List Addr} {nm : List (Str × NameKind)} {cs : List Str} {env : Env} {S : St} {h₀ : Heap} {lo : Nat} {s : Shared} {L : Lg}

theorem ev_bind {e : PySem.Expr} {R : Lg → Value → Prop} {Q : Value → Shared → Prop} (x : EvU W n nm cs S e R) (P : Pre W n A fs nm cs env h₀ lo S s.heap L)
    (k : ∀ v h' tk L', Pre W n A fs nm cs env h₀ lo S h' L' → Arr W n A fs s.heap L h' L' → R L' v → Q v { s with heap := h', toks := tk }) : wpAny W.M A (eval e env) Q NoE s :=
  x A fs env h₀ lo s L Q P fun v h' tk L' a c => k v h' tk L' (P.arr a) a c

theorem loadName_var {x : Str} {v : Value} {Q : Value → Shared → Prop} (hk : env.scope.kind = .function) (V : VarAt env s.heap x v) (hcd : (x == ("__classdict__" : Str)) = false) (h : Q v s) : wpAny W.M A (loadName env x) Q NoE s := by
  rcases V with ⟨hl, m, hn, hv⟩ | ⟨hc | hc, c, o, hc', ho, hd⟩
  · exact wpAny_loadName_local hk hl hn hv h
  · exact wpAny_loadName_cell hk hc hc' ⟨o, ho, hd⟩ h
  · exact wpAny_loadName_free hk hc hc' ⟨o, ho, hd⟩ h hcd
theorem hereD {d : D} {Q : Value → Shared → Prop} {v : Value} (H : HI W n A fs s.heap L) (k : ∀ v h' tk L', Arr W n A fs s.heap L h' L' → Rep L' v d → Q v { s with heap := h', toks := tk }) (r : Rep L v d) (tk : Nat) : Q v { s with toks := tk } :=
  k v s.heap tk L (.refl H) r
theorem ev_var {x : Str} {pos : Pos} {d : D} (hx : getL x S.vars = some d) (h1 : (x == ("__debug__" : Str)) = false) (h2 : (x == ("__classdict__" : Str)) = false) : EvD W n nm cs S (.Name x pos) d := by
  intro A fs env h₀ lo s L Q P k
  obtain ⟨v, V, R⟩ := P.vars _ (getL_mem hx)
  exact wpAny_Name (loadName_var P.envk V h2 (hereD P.hi k R s.toks)) h1
theorem ev_glob {x : Str} {pos : Pos} {v : Value} (hk : nm.lookup x = some .globalImplicit) (hv : W.mg x = some v) (h1 : (x == ("__debug__" : Str)) = false) : EvU W n nm cs S (.Name x pos) fun _ u => u = v := by
  intro A fs env h₀ lo s L Q P k
  exact Name_function_global P.envk (by unfold Env.kindOf; rw [P.names]; exact hk) (loadGlobal_global (by rw [P.envg]; exact W.g.keeps P.hi.base) hv (k v s.heap s.toks L (.refl P.hi) rfl)) h1
theorem ev_builtin {x : Str} {pos : Pos} {v : Value} (hk : nm.lookup x = some .globalImplicit) (hv : W.mg x = none) (hb : bootBuiltins x = some v) (hn : x ≠ "__name__") (h1 : (x == ("__debug__" : Str)) = false) : EvU W n nm cs S (.Name x pos) fun _ u => u = v := by
  intro A fs env h₀ lo s L Q P k
  exact Name_function_global P.envk (by unfold Env.kindOf; rw [P.names]; exact hk) (loadGlobal_builtin (env := env) (by rw [P.envg]; exact W.g.keeps P.hi.base) hv (by rw [P.envb.1]; exact W.b.keeps P.hi.base) ((W.bb x hn).trans hb) (k v s.heap s.toks L (.refl P.hi) rfl)) h1
theorem ev_int {i : Int} {j : Nat} {pos : Pos} : EvD W n nm cs S (.Constant (.int i) j pos) (.int i) := fun _ _ _ _ _ s _ _ P k => wpAny_Constant_int (hereD P.hi k (Rep.int i _) _)
theorem ev_bool {b : Bool} {j : Nat} {pos : Pos} : EvD W n nm cs S (.Constant (.bool b) j pos) (.bool b) := fun _ _ _ _ _ s _ _ P k => Constant_bool (hereD P.hi k (Rep.bool b) s.toks)
theorem ev_str {x : Str} {j : Nat} {pos : Pos} : EvD W n nm cs S (.Constant (.str x) j pos) (.str x) := fun _ _ _ _ _ s _ _ P k => Constant_str (hereD P.hi k (Rep.str x _) _)
end

/-- what a value stands for, in a heap: own lists are looked up -/
def St.see (S : St) : D → Option D
  | .own k => match S.own[k]? with
    | some (.list ds) => some (.list ds)
    | none => none
  | d => some d

def TsW (W : Wd) (n : Nat) (nm : List (Str × NameKind)) (cs : List Str) (S : St) (e : PySem.Expr) (whole : Env → Sem Value) (b : Bool) : Prop :=
  ∀ (A : Around) (fs : List Addr) (env : Env) (h₀ : Heap) (lo : Nat) (s : Shared) (L : Lg) (Q : Bool → Shared → Prop), Pre W n A fs nm cs env h₀ lo S s.heap L →
    (∀ h' tk L', Arr W n A fs s.heap L h' L' → Q b { s with heap := h', toks := tk }) → wpAny W.M A (PySem.isTrue e env (whole env)) Q NoE s
abbrev TsU (W : Wd) (n : Nat) (nm : List (Str × NameKind)) (cs : List Str) (S : St) (e : PySem.Expr) (b : Bool) : Prop := TsW W n nm cs S e (eval e) b
end
section
open PySem PySem.W PyProof.Rows PySem.Spec PySem.Calls
set_option maxRecDepth 100000
set_option maxHeartbeats 1000000
/-- what statements keep -/
def KpS (h h' : Heap) : Prop := (∀ b o vs, h.get? b = some o → o.data = .fields vs → h'.get? b = some o) ∧ ∀ b, h'.get? b = .none → h.get? b = .none
theorem KpS.refl (h : Heap) : KpS h h := ⟨fun _ _ _ e _ => e, fun _ e => e⟩
theorem KpS.trans {h h1 h2 : Heap} (x : KpS h h1) (y : KpS h1 h2) : KpS h h2 := ⟨fun b o vs e d => y.1 b o vs (x.1 b o vs e d) d, fun b e => x.2 b (y.2 b e)⟩
theorem Kp.toS {base : Heap} {A : Around} {fs : List Addr} {h h' : Heap} (k : Kp fs h h') (s : Stk base A fs h) : KpS h h' := ⟨fun b o vs e d => k.same b o e (off_data s e (by unfold dataOk; rw [d])), fun _ => k.none⟩
theorem KpS.of_but {z : Addr} {h h' : Heap} {o o' : Obj} (hs : Heap.SameBut z h h') (ho : h.get? z = some o) (hz : ∀ vs, o.data ≠ .fields vs) (ho' : h'.get? z = some o') : KpS h h' :=
  ⟨fun b o' vs e d => (hs.2 b fun q => by rw [q, ho] at e; cases e; exact hz vs d).trans e, fun b e => by
    by_cases q : b = z
    · rw [q, ho'] at e; cases e
    · rw [← hs.2 b q]; exact e⟩
/-- what assignments keep -/
def KpA (h h' : Heap) : Prop := (∀ b o, h.get? b = some o → dataOk o = true → h'.get? b = some o) ∧ ∀ b, h'.get? b = .none → h.get? b = .none
theorem KpA.refl (h : Heap) : KpA h h := ⟨fun _ _ e _ => e, fun _ e => e⟩
theorem KpA.trans {h h1 h2 : Heap} (x : KpA h h1) (y : KpA h1 h2) : KpA h h2 := ⟨fun b o e d => y.1 b o (x.1 b o e d) d, fun b e => x.2 b (y.2 b e)⟩
theorem KpA.toS {h h' : Heap} (x : KpA h h') : KpS h h' := ⟨fun b o vs e d => x.1 b o e (by unfold dataOk; rw [d]), x.2⟩
theorem Kp.toA {base : Heap} {A : Around} {fs : List Addr} {h h' : Heap} (k : Kp fs h h') (s : Stk base A fs h) : KpA h h' := ⟨fun b o e d => k.same b o e (off_data s e d), fun _ => k.none⟩
theorem KpA.of_but {z : Addr} {h h' : Heap} {o o' : Obj} (hs : Heap.SameBut z h h') (ho : h.get? z = some o) (hz : dataOk o = false) (ho' : h'.get? z = some o') : KpA h h' :=
  ⟨fun b o' e d => (hs.2 b fun q => by rw [q, ho] at e; cases e; rw [hz] at d; cases d).trans e, fun b e => by
    by_cases q : b = z
    · rw [q, ho'] at e; cases e
    · rw [← hs.2 b q]; exact e⟩
/-- new entries of the ledger, and new own lists -/
def MoreS (h : Heap) (L L' : Lg) : Prop := ∃ (add : Led) (ow : List Addr), L' = ⟨add ++ L.led, L.ow ++ ow⟩ ∧ ∀ p ∈ add, h.get? p.1 = .none
theorem MoreS.refl {h : Heap} {L : Lg} : MoreS h L L := ⟨[], [], by rw [List.append_nil]; rfl, fun _ hp => nomatch hp⟩
theorem MoreS.trans {h h' : Heap} {L L' L'' : Lg} (x : MoreS h L L') (z : ∀ b, h'.get? b = .none → h.get? b = .none) (y : MoreS h' L' L'') : MoreS h L L'' := by
  obtain ⟨a, u, rfl, ha⟩ := x
  obtain ⟨b, v, rfl, hb⟩ := y
  exact ⟨b ++ a, u ++ v, by rw [List.append_assoc, List.append_assoc], fun p hp => (List.mem_append.mp hp).elim (fun q => z _ (hb p q)) (ha p)⟩
theorem More.toS {h : Heap} {L L' : Lg} (x : More h L L') : MoreS h L L' := by
  obtain ⟨a, rfl, ha⟩ := x
  exact ⟨a, [], by rw [List.append_nil], ha⟩
theorem MoreS.le {h : Heap} {L L' : Lg} (x : MoreS h L L') : L.le L' := by
  obtain ⟨a, u, rfl, _⟩ := x
  exact ⟨fun _ => List.mem_append_right _, fun k a e => by
    rw [List.getElem?_append_left (List.getElem?_eq_some_iff.mp e).1]
    exact e⟩
structure ArrS (h : Heap) (L : Lg) (h' : Heap) (L' : Lg) : Prop where
  kp : KpS h h'
  more : MoreS h L L'
theorem ArrS.refl (h : Heap) (L : Lg) : ArrS h L h L := ⟨.refl _, .refl⟩
theorem ArrS.trans {h h' h'' : Heap} {L L' L'' : Lg} (x : ArrS h L h' L') (y : ArrS h' L' h'' L'') : ArrS h L h'' L'' := ⟨x.kp.trans y.kp, x.more.trans x.kp.2 y.more⟩

section
variable {W : Wd} {n : Nat} {A : Around} {fs : List Addr} {nm : List (Str × NameKind)} {cs : List Str} {env : Env} {h₀ h h' : Heap} {lo : Nat} {S : St} {L L' : Lg}
theorem Arr.toS (H : HI W n A fs h L) (a : Arr W n A fs h L h' L') : ArrS h L h' L' := ⟨a.kp.toS H.stk, a.more.toS⟩
theorem VarAt.sameL {m : Str → Option Value} {x y : Str} {u v : Value} (V : VarAt env h y u) (hn : h.Ns env.locals m) (hn' : h'.Ns env.locals fun z => if z = x then some v else m z) (hs : Heap.SameBut env.locals h h') (hy : y ≠ x) : VarAt env h' y u := by
  rcases V with ⟨hk, m1, h1, hv⟩ | ⟨hk, c, o, hc, ho, hd⟩
  · refine .inl ⟨hk, _, hn', ?_⟩
    rw [if_neg hy, ← Heap.Ns.agree h1 hn]
    exact hv
  · refine .inr ⟨hk, c, o, hc, (hs.2 c fun q => ?_).trans ho, hd⟩
    obtain ⟨o', es, ep, e, d, _⟩ := hn
    rw [← q, ho] at e
    cases e
    rw [hd] at d
    cases d
theorem VarAt.sameC {c : Addr} {o₀ : Obj} {w₀ : Option Value} {x y : Str} {u : Value} (V : VarAt env h y u) (hc : env.cells.lookup x = some c) (ho₀ : h.get? c = some o₀) (hd₀ : o₀.data = .cell w₀) (hs : Heap.SameBut c h h') (hy : y ≠ x)
    (inj : ∀ x y c, env.cells.lookup x = some c → env.cells.lookup y = some c → x = y) : VarAt env h' y u := by
  rcases V with ⟨hk, m1, h1, hv⟩ | ⟨hk, c', o, hc', ho, hd⟩
  · refine .inl ⟨hk, m1, h1.sameBut hs fun q => ?_, hv⟩
    obtain ⟨o', es, ep, e, d, _⟩ := h1
    rw [q, ho₀] at e
    cases e
    rw [hd₀] at d
    cases d
  · exact .inr ⟨hk, c', o, hc', (hs.2 c' fun q => hy (inj y x c (q ▸ hc') hc)).trans ho, hd⟩
/-- a write at an own list (or any object that is no dict and no cell) touches no variable -/
theorem VarAt.sameO {z : Addr} {o₀ : Obj} {y : Str} {u : Value} (V : VarAt env h y u) (ho : h.get? z = some o₀) (hz : ∀ vs n, o₀ = lob vs n → True) (hl : env.locals ≠ z) (hcl : ∀ w, o₀.data ≠ .cell w) (hs : Heap.SameBut z h h') : VarAt env h' y u := by
  rcases V with ⟨hk, m1, h1, hv⟩ | ⟨hk, c', o, hc', ho', hd⟩
  · exact .inl ⟨hk, m1, h1.sameBut hs hl, hv⟩
  · exact .inr ⟨hk, c', o, hc', (hs.2 c' fun q => by rw [q, ho] at ho'; cases ho'; exact hcl _ hd).trans ho', hd⟩
theorem HI.write {z : Addr} (H : HI W n A fs h L) (hz : ∀ p ∈ L.led, p.1 ≠ z) (hbn : W.base.get? z = none) (hs : Heap.SameBut z h h') (hf : z ∈ fs → ∃ o es ep, h'.get? z = some o ∧ o.data = .dict es ep) : HI W n A fs h' L :=
  ⟨H.handled, H.room, H.units, H.stk.re fun b hb => by
    by_cases q : b = z
    · subst q; exact hf hb
    · obtain ⟨_, o, es, ep, e, d⟩ := H.stk.dict hb
      exact ⟨o, es, ep, (hs.2 b q).trans e, d⟩, fun b o' e => (hs.2 b fun q => by rw [q, hbn] at e; cases e).trans (H.base b o' e), fun p hp => ⟨(hs.2 p.1 (hz p hp)).trans (H.led p hp).1, (H.led p hp).2⟩, H.nb⟩
theorem led_ne {z : Addr} {o : Obj} (H : HI W n A fs h L) (ho : h.get? z = some o) (hz : dataOk o = false) : ∀ p ∈ L.led, p.1 ≠ z := fun p hp q => by
  have h1 := (H.led p hp).1
  rw [q, ho] at h1
  cases h1
  rw [(H.led p hp).2] at hz
  cases hz
theorem Kp.write {z : Addr} (k : Kp fs h₀ h) (hz : h₀.get? z = .none) (hs : Heap.SameBut z h h') : Kp fs h₀ h' :=
  have ne : ∀ b o, h₀.get? b = some o → b ≠ z := fun b o e q => by rw [q, hz] at e; cases e
  ⟨fun b o e m => (hs.2 b (ne b o e)).trans (k.same b o e m), fun b o e m => by
    obtain ⟨sl, e'⟩ := k.slot b o e m
    exact ⟨sl, (hs.2 b (ne b o e)).trans e'⟩⟩
theorem Owns.write {z : Addr} {own : List Own} (O : Owns lo fs h₀ h L own) (hz : z ∉ L.ow) (hs : Heap.SameBut z h h') : Owns lo fs h₀ h' L own :=
  ⟨O.len, O.nodup, O.fresh, O.offs, fun k a o e1 e2 => by
    obtain ⟨ob, e3, e4⟩ := O.each k a o e1 e2
    exact ⟨ob, (hs.2 a fun q => hz (q ▸ List.mem_of_getElem? e1)).trans e3, e4⟩⟩
theorem Pre.fin {x : Str} {d : D} {v : Value} {z : Addr} {o : Obj} (P : Pre W n A fs nm cs env h₀ lo S h L) (R : Rep L v d) (ho : h.get? z = some o) (hz : dataOk o = false) (hzo : z ∉ L.ow) (hzn : h₀.get? z = .none) (hs : Heap.SameBut z h h')
    (hf : z ∈ fs → ∃ o es ep, h'.get? z = some o ∧ o.data = .dict es ep) (hV : ∀ y u, y ≠ x → VarAt env h y u → VarAt env h' y u) (hx : VarAt env h' x v) (hl : ∃ m, h'.Ns env.locals m)
    (hcell : ∀ c o v, h.get? c = some o → o.data = .cell v → ∃ o' v', h'.get? c = some o' ∧ o'.data = .cell v') : Pre W n A fs nm cs env h₀ lo (S.set x d) h' L := by
  refine ⟨P.hi.write (led_ne P.hi ho hz) (P.bsz _ hzn) hs hf, P.names, P.envk, P.envg, P.envb, P.keep.write hzn hs, hl, P.locn, P.loco, P.bsz, fun y hy => ?_, P.cinj, fun p hp => ?_, P.owns.write hzo hs⟩
  · obtain ⟨c, o, u, h1, h2, h3, h4⟩ := P.cst y hy
    obtain ⟨o', u', h5, h6⟩ := hcell c o u h3 h4
    exact ⟨c, o', u', h1, h2, h5, h6⟩
  · rcases mem_setL hp with rfl | ⟨hne, hp⟩
    · exact ⟨v, hx, R⟩
    · obtain ⟨u, V, R'⟩ := P.vars p hp
      exact ⟨u, hV _ _ hne V, R'⟩
theorem cell_no_own {c : Addr} {o : Obj} {u : Option Value} (P : Pre W n A fs nm cs env h₀ lo S h L) (ho : h.get? c = some o) (hd : o.data = .cell u) : c ∉ L.ow := fun hc => by
  obtain ⟨k, hk⟩ := List.getElem?_of_mem hc
  have hlt : k < S.own.length := by rw [← P.owns.len]; exact (List.getElem?_eq_some_iff.mp hk).1
  obtain ⟨ob, e1, e2⟩ := P.owns.each k c S.own[k] hk (List.getElem?_eq_getElem hlt)
  rw [ho] at e1
  cases e1
  cases hq : S.own[k] with
  | list ds =>
    rw [hq] at e2
    obtain ⟨vs, m, rfl, _⟩ := e2
    cases hd
theorem store' {x : Str} {d : D} {v : Value} {s : Shared} {Q : Unit → Shared → Prop} (P : Pre W n A fs nm cs env h₀ lo S s.heap L) (R : Rep L v d) (hx : nm.lookup x = some .local ∨ (nm.lookup x = some .cell ∧ x ∈ cs))
    (k : ∀ h' tk, Pre W n A fs nm cs env h₀ lo (S.set x d) h' L → KpA s.heap h' → (∀ z o, s.heap.get? z = some o → z ≠ env.locals → (∀ w, o.data ≠ .cell w) → h'.get? z = some o) → Q () { s with heap := h', toks := tk }) : wpAny W.M A (storeName env x v) Q NoE s := by
  have hkind : ∀ y, env.kindOf y = nm.lookup y := fun y => by unfold Env.kindOf; rw [P.names]
  rcases hx with hx | ⟨hx, hxc⟩
  · obtain ⟨m, hn⟩ := P.loc
    have hn0 := hn
    obtain ⟨oL, es, ep, hL, hLd, _⟩ := hn0
    refine wpAny_storeName_local ((hkind x).trans hx) hn (fun h' hn' hs => ?_) (by rw [P.envk]; rfl)
    have hL' : ∃ o es ep, h'.get? env.locals = some o ∧ o.data = .dict es ep := by obtain ⟨o, es, ep, e, d, _⟩ := hn'; exact ⟨o, es, ep, e, d⟩
    refine k h' _ (P.fin R hL (by unfold dataOk; rw [hLd]) P.loco P.locn hs (fun _ => hL') (fun y u hy V => V.sameL hn hn' hs hy) (.inl ⟨(hkind x).trans hx, _, hn', if_pos rfl⟩) ⟨_, hn'⟩ fun c o u e d => ⟨o, u, (hs.2 c fun q => by
      rw [q, hL] at e
      cases e
      rw [hLd] at d
      cases d).trans e, d⟩) (.of_but hs hL (by unfold dataOk; rw [hLd]) hL'.choose_spec.choose_spec.choose_spec.1) fun z o e hz _ => (hs.2 z hz).trans e
  · obtain ⟨c, o, u, hc, hcn, ho, hd⟩ := P.cst x hxc
    refine wpAny_storeName_cell P.envk ((hkind x).trans hx) hc ⟨o, ho, hd⟩ fun h' hc' hs => ?_
    obtain ⟨o', ho', hd'⟩ := hc'
    have hnf : c ∉ fs := fun hb => by
      obtain ⟨_, o2, es, ep, e, d⟩ := P.hi.stk.dict hb
      rw [ho] at e
      cases e
      rw [hd] at d
      cases d
    refine k h' s.toks (P.fin R ho (by unfold dataOk; rw [hd]) (cell_no_own P ho hd) hcn hs (fun hb => (hnf hb).elim) (fun y u hy V => V.sameC hc ho hd hs hy P.cinj) (.inr ⟨.inl ((hkind x).trans hx), c, o', hc, ho', hd'⟩) ?_ fun c' o2 u2 e d => ?_) (.of_but hs ho (by unfold dataOk; rw [hd]) ho') fun z o2 e _ hz => (hs.2 z fun q => by rw [q, ho] at e; cases e; exact hz _ hd).trans e
    · obtain ⟨m, hn⟩ := P.loc
      refine ⟨m, hn.sameBut hs fun q => ?_⟩
      obtain ⟨o2, es, ep, e, d, _⟩ := hn
      rw [q, ho] at e
      cases e
      rw [hd] at d
      cases d
    · by_cases q : c' = c
      · subst q; exact ⟨o', _, ho', hd'⟩
      · exact ⟨o2, u2, (hs.2 c' q).trans e, d⟩
theorem store {x : Str} {d : D} {v : Value} {s : Shared} {Q : Unit → Shared → Prop} (P : Pre W n A fs nm cs env h₀ lo S s.heap L) (R : Rep L v d) (hx : nm.lookup x = some .local ∨ (nm.lookup x = some .cell ∧ x ∈ cs))
    (k : ∀ h' tk, Pre W n A fs nm cs env h₀ lo (S.set x d) h' L → KpA s.heap h' → Q () { s with heap := h', toks := tk }) : wpAny W.M A (storeName env x v) Q NoE s := store' P R hx fun h' tk p a _ => k h' tk p a
end
end
section
open PySem PySem.W PyProof.Rows PySem.Spec PySem.Calls
set_option maxRecDepth 100000
set_option maxHeartbeats 1000000
/-- the state of an iterator -/
inductive It where
  | items (ds : List D)
  | own (k i : Nat)
def rangeL (x left step : Int) : List D := (List.range left.toNat).map fun (k : Nat) => D.int (x + (k : Int) * step)
theorem rangeL_cons {x left step : Int} (h : 0 < left) : rangeL x left step = D.int x :: rangeL (x + step) (left - 1) step := by
  unfold rangeL
  obtain ⟨k, rfl⟩ : ∃ k : Nat, left = k + 1 := ⟨(left - 1).toNat, by omega⟩
  have e1 : ((k : Int) + 1).toNat = k + 1 := by omega
  have e2 : ((k : Int) + 1 - 1).toNat = k := by omega
  rw [e1, e2, List.range_succ_eq_map, List.map_cons, List.map_map]
  congr 1
  · simp
  · refine List.map_congr_left fun j _ => ?_
    show D.int _ = D.int _
    congr 1
    simp only [Nat.succ_eq_add_one]
    push_cast
    rw [Int.add_mul, Int.one_mul]
    omega
theorem rangeL_nil {x left step : Int} (h : left ≤ 0) : rangeL x left step = [] := by
  unfold rangeL
  rw [show left.toNat = 0 by omega]
  rfl
def It.next (S : St) : It → Option (D × It)
  | .items [] => none
  | .items (d :: r) => some (d, .items r)
  | .own k i => match S.own[k]? with
    | some (.list ds) => match ds[i]? with
      | some d => some (d, .own k (i + 1))
      | none => none
    | none => none
inductive ItAt (h : Heap) (L : Lg) (I : Addr) : It → Prop
  | list {a : Addr} {i n : Nat} {vs : List Value} {all ds : List D} : h.IsListIter I a i → (a, lob vs n) ∈ L.led → Reps L vs all → ds = all.drop i → ItAt h L I (.items ds)
  | tup {a : Addr} {i n : Nat} {vs : List Value} {all ds : List D} : h.IsTupleIter I a i → (a, tob vs n) ∈ L.led → Reps L vs all → ds = all.drop i → ItAt h L I (.items ds)
  | range {x left step : Int} {ds : List D} : IsRangeIter h I x left step → ds = rangeL x left step → ItAt h L I (.items ds)
  | own {k i : Nat} {a : Addr} : h.IsListIter I a i → L.ow[k]? = some a → ItAt h L I (.own k i)
theorem ItAt.fields {h : Heap} {L : Lg} {I : Addr} {x : It} (a : ItAt h L I x) : ∃ o vs, h.get? I = some o ∧ o.data = .fields vs := by
  cases a with
  | list h _ _ _ => obtain ⟨o, e, _, d⟩ := h; exact ⟨o, _, e, d⟩
  | tup h _ _ _ => obtain ⟨o, e, _, d⟩ := h; exact ⟨o, _, e, d⟩
  | range h _ => exact ⟨_, _, h, rfl⟩
  | own h _ => obtain ⟨o, e, _, d⟩ := h; exact ⟨o, _, e, d⟩
theorem ItAt.keep {h h' : Heap} {L L' : Lg} {I : Addr} {x : It} (a : ItAt h L I x) (k : KpS h h') (l : L.le L') : ItAt h' L' I x := by
  cases a with
  | list h m r e => obtain ⟨o, q, c, d⟩ := h; exact .list ⟨o, k.1 _ _ _ q d, c, d⟩ (l.led _ m) (r.mono l) e
  | tup h m r e => obtain ⟨o, q, c, d⟩ := h; exact .tup ⟨o, k.1 _ _ _ q d, c, d⟩ (l.led _ m) (r.mono l) e
  | range h e => exact .range (k.1 _ _ _ h rfl) e
  | own h e => obtain ⟨o, q, c, d⟩ := h; exact .own ⟨o, k.1 _ _ _ q d, c, d⟩ (l.ow _ _ e)
section
variable {W : Wd} {n : Nat} {A : Around} {fs : List Addr} {nm : List (Str × NameKind)} {cs : List Str} {env : Env} {h₀ h h' : Heap} {lo : Nat} {S : St} {L L' : Lg} {s : Shared}
theorem isList_lob {a : Addr} {vs : List Value} {c : Nat} (e : h.get? a = some (lob vs c)) : h.IsList a vs.toArray := ⟨_, e, rfl, c, rfl⟩
theorem isTuple_tob {a : Addr} {vs : List Value} {c : Nat} (e : h.get? a = some (tob vs c)) : h.IsTuple a vs.toArray := ⟨_, e, rfl, c, rfl⟩
theorem own_at {k : Nat} {ds : List D} {a : Addr} (P : Pre W n A fs nm cs env h₀ lo S h L) (e : S.own[k]? = some (.list ds)) (ha : L.ow[k]? = some a) : ∃ vs c, h.get? a = some (lob vs c) ∧ Reps L vs ds := by
  obtain ⟨ob, e1, vs, c, rfl, r⟩ := P.owns.each k a _ ha e
  exact ⟨vs, c, e1, r⟩
theorem own_off {a : Addr} (P : Pre W n A fs nm cs env h₀ lo S h L) (ha : a ∈ L.ow) : ∃ vs c, h.get? a = some (lob vs c) := by
  obtain ⟨k, hk⟩ := List.getElem?_of_mem ha
  have hlt : k < S.own.length := by rw [← P.owns.len]; exact (List.getElem?_eq_some_iff.mp hk).1
  obtain ⟨ob, e1, e2⟩ := P.owns.each k a S.own[k] hk (List.getElem?_eq_getElem hlt)
  cases hq : S.own[k] with
  | list ds =>
    rw [hq] at e2
    obtain ⟨vs, c, rfl, _⟩ := e2
    exact ⟨vs, c, e1⟩
/-- an object that nothing leans on moves -/
theorem Pre.off {I : Addr} {o : Obj} (P : Pre W n A fs nm cs env h₀ lo S h L) (ho : h.get? I = some o) (hf : I ∉ fs) (hl : env.locals ≠ I) (hc : ∀ w, o.data ≠ .cell w) (hw : I ∉ L.ow) (hI : ∀ p ∈ L.led, p.1 ≠ I) (hn : h₀.get? I = none) (he : Heap.ExtBut I h h') : Pre W n A fs nm cs env h₀ lo S h' L := by
  have ns : ∀ {m}, h.Ns env.locals m → h'.Ns env.locals m := fun {m} x => by
    obtain ⟨o', es, ep, e, d, r⟩ := x
    exact ⟨o', es, ep, he _ o' hl e, d, r⟩
  have nc : ∀ c o' w, h.get? c = some o' → o'.data = .cell w → h'.get? c = some o' := fun c o' w e d => he c o' (fun x => by rw [x, ho] at e; cases e; exact hc _ d) e
  refine ⟨⟨P.hi.handled, P.hi.room, P.hi.units, P.hi.stk.re fun b hb => ?_, fun b o' e => he b o' (fun q => by rw [q, P.bsz _ hn] at e; cases e) (P.hi.base b o' e), fun p hp => ⟨he p.1 p.2 (hI p hp) (P.hi.led p hp).1, (P.hi.led p hp).2⟩, P.hi.nb⟩,
    P.names, P.envk, P.envg, P.envb, ⟨fun b o' e m => he b o' (fun q => by rw [q, hn] at e; cases e) (P.keep.same b o' e m), fun b o' e m => ?_⟩, P.loc.imp fun _ => ns, P.locn, P.loco, P.bsz, fun x hx => ?_, P.cinj, fun p hp => ?_, ?_⟩
  · obtain ⟨_, o', es, ep, e, d⟩ := P.hi.stk.dict hb
    exact ⟨o', es, ep, he b o' (fun q => hf (q ▸ hb)) e, d⟩
  · obtain ⟨sl, e'⟩ := P.keep.slot b o' e m
    exact ⟨sl, he b _ (fun q => hf (q ▸ m)) e'⟩
  · obtain ⟨c, o', v, h1, h2, h3, h4⟩ := P.cst x hx
    exact ⟨c, o', v, h1, h2, nc c o' _ h3 h4, h4⟩
  · obtain ⟨v, V, R⟩ := P.vars p hp
    refine ⟨v, ?_, R⟩
    rcases V with ⟨hk, m, hm, hv⟩ | ⟨hk, c, o', hc, e, d⟩
    · exact .inl ⟨hk, m, ns hm, hv⟩
    · exact .inr ⟨hk, c, o', hc, nc c o' _ e d, d⟩
  · refine ⟨P.owns.len, P.owns.nodup, P.owns.fresh, P.owns.offs, fun k a w e1 e2 => ?_⟩
    obtain ⟨ob, e3, e4⟩ := P.owns.each k a w e1 e2
    exact ⟨ob, he a ob (fun q => hw (q ▸ List.mem_of_getElem? e1)) e3, e4⟩
/-- an iterator moves -/
theorem Pre.iter {I : Addr} {o : Obj} {fv : Array Value} (P : Pre W n A fs nm cs env h₀ lo S h L) (ho : h.get? I = some o) (hd : o.data = .fields fv) (hI : ∀ p ∈ L.led, p.1 ≠ I) (hn : h₀.get? I = none) (he : Heap.ExtBut I h h') : Pre W n A fs nm cs env h₀ lo S h' L := by
  refine P.off ho (off_data P.hi.stk ho (by unfold dataOk; rw [hd])) (fun q => ?_) (fun w q => by rw [hd] at q; cases q) (fun q => ?_) hI hn he
  · obtain ⟨m, o', es, ep, e, d, _⟩ := P.loc
    rw [q, ho] at e
    cases e
    rw [hd] at d
    cases d
  · obtain ⟨vs, c, e⟩ := own_off P q
    rw [ho] at e
    cases e
    cases hd
theorem it_next [hqq : Quiet W] {x : It} {I : Addr} {Q : Option Value → Shared → Prop} (P : Pre W n A fs nm cs env h₀ lo S s.heap L) (a : ItAt s.heap L I x) (hI : ∀ p ∈ L.led, p.1 ≠ I) (hn : h₀.get? I = none)
    (k1 : ∀ d x', x.next S = some (d, x') → ∀ v h' tk, ItAt h' L I x' → Rep L v d → Heap.ExtBut I s.heap h' → Pre W n A fs nm cs env h₀ lo S h' L → Q (some v) { s with heap := h', toks := tk })
    (k2 : x.next S = none → ∀ h', Heap.ExtBut I s.heap h' → Pre W n A fs nm cs env h₀ lo S h' L → Q none { s with heap := h' }) : wpAny W.M A (pyNext (.ref I)) Q NoE s := by
  obtain ⟨oI, fv, ho, hd⟩ := a.fields
  have pre : ∀ {h'}, Heap.ExtBut I s.heap h' → Pre W n A fs nm cs env h₀ lo S h' L := fun he => P.iter ho hd hI hn he
  cases a with
  | @list a i c vs all ds hit hm r e =>
    have hl := isList_lob (P.hi.led _ hm).1
    have hlen := r.length
    by_cases hlt : i < all.length
    · obtain ⟨v, e1, e2⟩ := r.get (i := i) (List.getElem?_eq_getElem hlt)
      refine wpAny_pyNext_list_item hit hl (x := v) (by simpa using e1) fun h' hit' hs => ?_
      refine k1 all[i] (.items (all.drop (i + 1))) ?_ v h' s.toks (.list hit' hm r rfl) e2 hs.extBut (pre hs.extBut)
      rw [e, List.drop_eq_getElem_cons hlt]
      rfl
    · refine wpAny_pyNext_list_end (P.hi.handled hqq.q) hit hl ?_ fun h' he => k2 ?_ h' he (pre he)
      · simp; omega
      · rw [e, List.drop_eq_nil_of_le (by omega)]; rfl
  | @tup a i c vs all ds hit hm r e =>
    have hl := isTuple_tob (P.hi.led _ hm).1
    have hlen := r.length
    by_cases hlt : i < all.length
    · obtain ⟨v, e1, e2⟩ := r.get (i := i) (List.getElem?_eq_getElem hlt)
      refine wpAny_pyNext_tuple_item hit hl (x := v) (by simpa using e1) fun h' hit' hs => ?_
      refine k1 all[i] (.items (all.drop (i + 1))) ?_ v h' s.toks (.tup hit' hm r rfl) e2 hs.extBut (pre hs.extBut)
      rw [e, List.drop_eq_getElem_cons hlt]
      rfl
    · refine wpAny_pyNext_tuple_end (P.hi.handled hqq.q) hit hl ?_ fun h' he => k2 ?_ h' he (pre he)
      · simp; omega
      · rw [e, List.drop_eq_nil_of_le (by omega)]; rfl
  | @range z left step ds hit e =>
    by_cases hp : 0 < left
    · refine wpAny_pyNext_range_item hit hp fun h' hit' hs => ?_
      exact k1 (.int z) (.items (rangeL (z + step) (left - 1) step)) (by rw [e, rangeL_cons hp]; rfl) _ h' _ (.range hit' rfl) (Rep.int _ _) hs.extBut (pre hs.extBut)
    · exact wpAny_pyNext_range_end (P.hi.handled hqq.q) hit (by omega) fun h' he => k2 (by rw [e, rangeL_nil (by omega)]; rfl) h' he (pre he)
  | @own k i a hit hk =>
    have hlt : k < S.own.length := by rw [← P.owns.len]; exact (List.getElem?_eq_some_iff.mp hk).1
    have hq := List.getElem?_eq_getElem hlt
    cases hw : S.own[k] with
    | list ds =>
      rw [hw] at hq
      obtain ⟨vs, c, e1, r⟩ := own_at P hq hk
      have hl := isList_lob e1
      have hlen := r.length
      by_cases hi : i < ds.length
      · obtain ⟨v, e2, e3⟩ := r.get (i := i) (List.getElem?_eq_getElem hi)
        refine wpAny_pyNext_list_item hit hl (x := v) (by simpa using e2) fun h' hit' hs => ?_
        refine k1 ds[i] (.own k (i + 1)) ?_ v h' s.toks (.own hit' hk) e3 hs.extBut (pre hs.extBut)
        show (match S.own[k]? with | some (.list ds) => _ | none => _) = _
        rw [hq]
        simp [hi]
      · refine wpAny_pyNext_list_end (P.hi.handled hqq.q) hit hl (by simp; omega) fun h' he => k2 ?_ h' he (pre he)
        show (match S.own[k]? with | some (.list ds) => _ | none => _) = _
        rw [hq]
        simp
        rw [List.getElem?_eq_none (by omega)]
end
end
section
open PySem PySem.W PyProof.Rows PySem.Spec PySem.Calls
set_option maxRecDepth 100000
set_option maxHeartbeats 1000000
def iterP : D → Option It
  | .list ds => some (.items ds)
  | .tup ds => some (.items ds)
  | .range a b c => if Builtin.Range.small a b c then some (.items (rangeL a (Builtin.Range.rangeSize a b c) c)) else none
  | .own k => some (.own k 0)
  | _ => none
section
variable {W : Wd} {n : Nat} {A : Around} {fs : List Addr} {nm : List (Str × NameKind)} {cs : List Str} {env : Env} {h₀ h h' : Heap} {lo : Nat} {S : St} {L L' : Lg} {s : Shared}
theorem KpA.push (h : Heap) (o : Obj) : KpA h (h.push o) := ⟨fun _ _ e _ => Heap.get?_push_of_some _ e, fun b e => by
  cases q : h.get? b with
  | none => rfl
  | some o' => rw [Heap.get?_push_of_some _ q] at e; cases e⟩
theorem it_new {v : Value} {d : D} {x : It} {Q : Value → Shared → Prop} (P : Pre W n A fs nm cs env h₀ lo S s.heap L) (R : Rep L v d) (e : iterP d = some x)
    (k : ∀ I h', ItAt h' L I x → Arr W n A fs s.heap L h' L → s.heap.get? I = none → Q (.ref I) { s with heap := h' }) : wpAny W.M A (pyIter v) Q NoE s := by
  have H := P.hi
  have hn : s.heap.get? s.heap.objs.size = none := Heap.get?_none_of_le (Nat.le_refl _)
  cases R with
  | none | bool | int | str => cases e
  | list hm r =>
    cases e
    exact wpAny_pyIter_list (isList_lob (H.led _ hm).1) (k _ _ (.list (i := 0) ⟨_, Heap.get?_push_size _ rfl, rfl, rfl⟩ hm r rfl) (.of_kp H (.push _ _ _)) hn)
  | tup hm r =>
    cases e
    exact wpAny_pyIter_tuple (isTuple_tob (H.led _ hm).1) (k _ _ (.tup (i := 0) ⟨_, Heap.get?_push_size _ rfl, rfl, rfl⟩ hm r rfl) (.of_kp H (.push _ _ _)) hn)
  | @range r a b c t u v hm =>
    have e' : (if Builtin.Range.small a b c then some (It.items (rangeL a (Builtin.Range.rangeSize a b c) c)) else none) = some x := e
    split at e'
    · rename_i hs
      cases e'
      exact wpAny_pyIter_range (H.led _ hm).1 hs (k _ _ (.range (Heap.get?_push_size _ rfl) rfl) (.of_kp H (.push _ _ _)) hn)
    · cases e'
  | set _ _ _ => cases e
  | own hk =>
    cases e
    obtain ⟨vs, c, e1⟩ := own_off P (List.mem_of_getElem? hk)
    exact wpAny_pyIter_list (isList_lob e1) (k _ _ (.own (i := 0) ⟨_, Heap.get?_push_size _ rfl, rfl, rfl⟩ hk) (.of_kp H (.push _ _ _)) hn)
theorem go_tuple {elts : List PySem.Expr} {j : Nat} {pos : Pos} {I : Addr} {x : It} {v : Value} {Q : Unit → Shared → Prop} (a : ItAt s.heap L I x) (k : Q () s) : wpAny W.M A (letOwnedTupleGo (.Tuple elts j pos) (.ref I) v) Q NoE s := by
  cases v with
  | ref T =>
    have main : ∀ (o : Obj) (nme : String) (fv : Array Value), s.heap.get? I = some o → o.cls = .type nme → o.data = .fields fv →
        (["enumerate", "zip", "dict_itemiterator", "dict_reverseitemiterator", "odict_iterator", "itertools.zip_longest", "itertools.pairwise"].contains nme) = false → wpAny W.M A (letOwnedTupleGo (.Tuple elts j pos) (.ref I) (.ref T)) Q NoE s := fun o nme fv ho hc hd hf => by
      unfold letOwnedTupleGo
      refine wpAny_bind (wpAny_load ho ?_)
      rw [hc, hd]
      dsimp only
      rw [if_neg (by rw [hf, Bool.false_and]; exact Bool.false_ne_true)]
      exact wpAny_pure k
    cases a with
    | list h _ _ _ => obtain ⟨o, e, c, d⟩ := h; exact main o _ _ e c d (by decide)
    | tup h _ _ _ => obtain ⟨o, e, c, d⟩ := h; exact main o _ _ e c d (by decide)
    | range h _ => exact main _ _ _ h rfl rfl (by decide)
    | own h _ => obtain ⟨o, e, c, d⟩ := h; exact main o _ _ e c d (by decide)
  | _ => exact wpAny_pure k

def storable (nm : List (Str × NameKind)) (cs : List Str) (x : Str) : Bool := nm.lookup x == some .local || (nm.lookup x == some .cell && cs.contains x)
theorem storable_ok {x : Str} (h : storable nm cs x = true) : nm.lookup x = some .local ∨ (nm.lookup x = some .cell ∧ x ∈ cs) := by
  unfold storable at h
  rw [Bool.or_eq_true, Bool.and_eq_true] at h
  rcases h with h | ⟨h1, h2⟩
  · exact .inl (eq_of_beq h)
  · exact .inr ⟨eq_of_beq h1, List.contains_iff_mem.mp h2⟩
theorem none_some {α : Type} {x : α} {P : Prop} (h : (none : Option α) = some x) : P := by cases h
def nameOf : PySem.Expr → Option Str
  | .Name x _ => some x
  | _ => none
theorem nameOf_inv {t : PySem.Expr} {x : Str} (h : nameOf t = some x) : ∃ pos, t = .Name x pos := by
  cases t with
  | Name y pos => cases h; exact ⟨_, rfl⟩
  | _ => exact none_some h
def bindEach (nm : List (Str × NameKind)) (cs : List Str) : List PySem.Expr → List D → St → Option St
  | [], [], S => some S
  | t :: es, d :: ds, S => match nameOf t with
    | some x => if storable nm cs x then bindEach nm cs es ds (S.set x d) else none
    | none => none
  | _, _, _ => none
def bindT (nm : List (Str × NameKind)) (cs : List Str) (t : PySem.Expr) (d : D) (S : St) : Option St :=
  match t with
  | .Name x _ => if storable nm cs x then some (S.set x d) else none
  | .Tuple es _ _ => match d with
    | .tup ds => bindEach nm cs es ds S
    | .list ds => bindEach nm cs es ds S
    | _ => none
  | _ => none
theorem bindEach_inv {t : PySem.Expr} {es : List PySem.Expr} {ds : List D} {S S' : St} (e : bindEach nm cs (t :: es) ds S = some S') : ∃ x pos d ds', t = .Name x pos ∧ ds = d :: ds' ∧ storable nm cs x = true ∧ bindEach nm cs es ds' (S.set x d) = some S' := by
  cases ds with
  | nil => exact none_some e
  | cons d ds =>
    cases q : nameOf t with
    | none =>
      have e : (match nameOf t with | some x => if storable nm cs x then bindEach nm cs es ds (S.set x d) else none | none => none) = some S' := e
      rw [q] at e
      exact none_some e
    | some x =>
      have e : (match nameOf t with | some x => if storable nm cs x then bindEach nm cs es ds (S.set x d) else none | none => none) = some S' := e
      rw [q] at e
      obtain ⟨pos, rfl⟩ := nameOf_inv q
      by_cases hx : storable nm cs x = true
      · exact ⟨x, pos, d, ds, rfl, rfl, hx, (if_pos hx).symm.trans e⟩
      · exact none_some ((if_neg hx).symm.trans e)
theorem assign_name {x : Str} {pos : Pos} {d : D} {v : Value} {Q : Unit → Shared → Prop} (P : Pre W n A fs nm cs env h₀ lo S s.heap L) (R : Rep L v d) (hx : storable nm cs x = true)
    (k : ∀ h' tk, Pre W n A fs nm cs env h₀ lo (S.set x d) h' L → KpA s.heap h' → Q () { s with heap := h', toks := tk }) : wpAny W.M A (assign (.Name x pos) env v) Q NoE s :=
  wpAny_assign_Name (store P R (storable_ok hx) k)
theorem bindEach_len : ∀ {es : List PySem.Expr} {ds : List D} {S S' : St}, bindEach nm cs es ds S = some S' → es.length = ds.length ∧ (∀ env, (assignEach es env).length = es.length ∧ (assignEach es env).findIdx? (·.1) = none) := by
  intro es
  induction es with
  | nil =>
    intro ds S S' e
    cases ds with
    | nil => exact ⟨rfl, fun env => ⟨rfl, rfl⟩⟩
    | cons _ _ => exact none_some e
  | cons t es ih =>
    intro ds S S' e
    obtain ⟨x, pos, d, ds, rfl, rfl, _, e⟩ := bindEach_inv e
    obtain ⟨h1, h2⟩ := ih e
    refine ⟨congrArg Nat.succ h1, fun env => ?_⟩
    have h3 : assignEach (.Name x pos :: es) env = (false, assign (.Name x pos) env) :: assignEach es env := rfl
    rw [h3]
    refine ⟨congrArg Nat.succ (h2 env).1, ?_⟩
    rw [List.findIdx?_cons, if_neg Bool.false_ne_true, (h2 env).2]
    rfl
theorem bindEach_ok : ∀ {es : List PySem.Expr} {ds : List D} {vs : List Value} {S S' : St} {s : Shared} {Q : Unit → Shared → Prop}, bindEach nm cs es ds S = some S' → Pre W n A fs nm cs env h₀ lo S s.heap L → Reps L vs ds →
    (∀ h' tk, Pre W n A fs nm cs env h₀ lo S' h' L → KpA s.heap h' → Q () { s with heap := h', toks := tk }) → wpAny W.M A (assignInOrder ((assignEach es env).map (·.2)) vs) Q NoE s := by
  intro es
  induction es with
  | nil =>
    intro ds vs S S' s Q e P R k
    cases R with
    | nil => cases e; exact wpAny_pure (k s.heap s.toks P (.refl _))
    | cons _ _ => exact none_some e
  | cons t es ih =>
    intro ds vs S S' s Q e P R k
    obtain ⟨x, pos, d, ds, rfl, rfl, hx, e⟩ := bindEach_inv e
    cases R with
    | @cons v _ vs _ R1 R2 =>
      show wpAny W.M A (do holding vs (assign (.Name x pos) env v); assignInOrder ((assignEach es env).map (·.2)) vs) Q NoE s
      refine wpAny_bind (wpAny_holding (assign_name P R1 hx fun h1 t1 P1 k1 => ?_))
      exact ih e P1 R2 fun h2 t2 P2 k2 => k h2 t2 P2 (k1.trans k2)
theorem draw_ok [hq : Quiet W] {I : Addr} : ∀ (ds : List D) (s : Shared) (Q : List Value → Shared → Prop), Pre W n A fs nm cs env h₀ lo S s.heap L → ItAt s.heap L I (.items ds) → (∀ p ∈ L.led, p.1 ≠ I) → h₀.get? I = none →
    (∀ vs h' tk, Pre W n A fs nm cs env h₀ lo S h' L → ItAt h' L I (.items []) → Reps L vs ds → Heap.ExtBut I s.heap h' → Q vs { s with heap := h', toks := tk }) → wpAny W.M A (draw (.ref I) ds.length) Q NoE s := by
  intro ds
  induction ds with
  | nil =>
    intro s Q P a hI hn k
    exact wpAny_pure (k [] s.heap s.toks P a .nil fun _ _ _ e => e)
  | cons d r ih =>
    intro s Q P a hI hn k
    show wpAny _ _ (pyNext (.ref I) >>= _) Q NoE s
    refine wpAny_bind (it_next P a hI hn (fun d' x' e v h' tk a' R he P' => ?_) fun e => by cases e)
    cases e
    refine wpAny_bind (wpAny_holding (ih _ _ P' a' hI hn fun vs h2 t2 P2 a2 R2 he2 => wpAny_pure ?_))
    exact k (v :: vs) h2 t2 P2 a2 (.cons R R2) fun b o q e => he2 b o q (he b o q e)
theorem ExtBut.kpS' {I : Addr} {h h' : Heap} {hs : Heap} (he : Heap.ExtBut I h h') (k : KpS hs h) (hn : hs.get? I = none) : KpS hs h' :=
  ⟨fun b o vs e d => he b o (fun q => by rw [q, hn] at e; cases e) (k.1 b o vs e d), fun b e => by
    by_cases hb : b = I
    · rw [hb]; exact hn
    · refine k.2 b ?_
      cases q : h.get? b with
      | none => rfl
      | some o => rw [he b o hb q] at e; cases e⟩
theorem ExtBut.kpA' {I : Addr} {h h' : Heap} {hs : Heap} (he : Heap.ExtBut I h h') (k : KpA hs h) (hn : hs.get? I = none) : KpA hs h' :=
  ⟨fun b o e d => he b o (fun q => by rw [q, hn] at e; cases e) (k.1 b o e d), fun b e => by
    by_cases hb : b = I
    · rw [hb]; exact hn
    · refine k.2 b ?_
      cases q : h.get? b with
      | none => rfl
      | some o => rw [he b o hb q] at e; cases e⟩
theorem unpack_items [hq : Quiet W] {v : Value} {ds : List D} {Q : List Value → Shared → Prop} {T : String} {id : String} (P : Pre W n A fs nm cs env h₀ lo S s.heap L) (hT : s.TypeIs v T) (hs : Slot T "__iter__" id) {d : D} (R : Rep L v d) (hd : iterP d = some (.items ds))
    (k : ∀ vs h' tk, Pre W n A fs nm cs env h₀ lo S h' L → Reps L vs ds → KpA s.heap h' → Q vs { s with heap := h', toks := tk }) : wpAny W.M A (unpackItems v ds.length none) Q NoE s := by
  unfold unpackItems
  refine wpAny_bind ?_
  unfold notIterableAtAll
  refine wpAny_bind (wpAny_specialOf hT hs.lookup ?_)
  refine wpAny_pure ?_
  simp only [Bool.false_eq_true, if_false]
  refine wpAny_bind (wpAny_holding (it_new P R hd fun I h1 a1 ar hn => ?_))
  have P1 := P.arr ar
  have hI : ∀ p ∈ L.led, p.1 ≠ I := fun p hp q => by have := (P.hi.led p hp).1; rw [q, hn] at this; cases this
  have hn0 : h₀.get? I = none := P.keep.none hn
  have k1 := ar.kp.toA P.hi.stk
  refine wpAny_bind (wpAny_holding (draw_ok ds _ _ P1 a1 hI hn0 fun vs h2 t2 P2 a2 R2 he2 => ?_))
  have hlen := R2.length
  rw [if_neg (by rw [hlen]; omega)]
  refine wpAny_bind (wpAny_holding (it_next P2 a2 hI hn0 (fun d' x' e => by cases e) fun _ h3 he3 P3 => ?_))
  simp only [Option.isSome_none, Bool.false_eq_true, if_false]
  exact wpAny_pure (k vs h3 t2 P3 R2 (ExtBut.kpA' (fun b o q e => he3 b o q (he2 b o q e)) k1 hn))
theorem assign_ok [hq : Quiet W] {t : PySem.Expr} {d : D} {v : Value} {S' : St} {Q : Unit → Shared → Prop} (P : Pre W n A fs nm cs env h₀ lo S s.heap L) (R : Rep L v d) (e : bindT nm cs t d S = some S')
    (k : ∀ h' tk, Pre W n A fs nm cs env h₀ lo S' h' L → KpA s.heap h' → Q () { s with heap := h', toks := tk }) : wpAny W.M A (assign t env v) Q NoE s := by
  have tup : ∀ {es : List PySem.Expr} {j : Nat} {pos : Pos} {ds : List D} {T id : String}, s.TypeIs v T → Slot T "__iter__" id → iterP d = some (.items ds) → bindEach nm cs es ds S = some S' → wpAny W.M A (assign (.Tuple es j pos) env v) Q NoE s := by
    intro es j pos ds T id hT hs hd he
    obtain ⟨l1, l2⟩ := bindEach_len he
    rw [arm_assign_Tuple]
    refine wpAny_bind (wpAny_standAt ?_)
    unfold unpack
    rw [(l2 env).1, (l2 env).2, l1]
    refine wpAny_bind (wpAny_holding (unpack_items P hT hs R hd fun vs h1 t1 P1 R1 k1 => ?_))
    exact bindEach_ok he P1 R1 fun h2 t2 P2 k2 => k h2 t2 P2 (k1.trans k2)
  cases t with
  | Name x pos =>
    by_cases hx : storable nm cs x = true
    · cases (if_pos hx).symm.trans e
      exact assign_name P R hx k
    · exact none_some ((if_neg hx).symm.trans e)
  | Tuple es j pos =>
    cases R with
    | list hm r => exact tup (isList_lob (P.hi.led _ hm).1).typeIs slot_list_iter rfl e
    | tup hm r => exact tup (isTuple_tob (P.hi.led _ hm).1).typeIs PySem.F.slot_tuple_iter rfl e
    | _ => exact none_some e
  | _ => exact none_some e
end
end
section
open PySem PySem.W PyProof.Rows PySem.Spec PySem.Calls
set_option maxRecDepth 100000
set_option maxHeartbeats 1000000
def D.flat : D → Bool
  | .none | .bool _ | .int _ | .str _ => true
  | _ => false
def D.isOwn : D → Bool
  | .own _ => true
  | _ => false
theorem Rep.flat {L L' : Lg} {v : Value} {d : D} (r : Rep L v d) (h : d.flat = true) : Rep L' v d := by
  cases r with
  | none => exact .none
  | bool b => exact .bool b
  | int i t => exact .int i t
  | str x t => exact Rep.str x t
  | list _ _ => cases h
  | tup _ _ => cases h
  | range _ => cases h
  | own _ => cases h
  | set _ _ _ => cases h
section
variable {W : Wd} {n : Nat} {A : Around} {fs : List Addr} {nm : List (Str × NameKind)} {cs : List Str} {env : Env} {h₀ h h' : Heap} {lo : Nat} {S : St} {L L' : Lg} {s : Shared}
/-- for the time of an operation the own lists stand in the ledger -/
theorem freeze (P : Pre W n A fs nm cs env h₀ lo S h L) : ∃ L₁ : Lg, L.le L₁ ∧ HI W n A fs h L₁ ∧ (∀ v d d', Rep L v d → S.see d = some d' → Rep L₁ v d') ∧
    ∀ h' L', Arr W n A fs h L₁ h' L' → ∃ L₂, Arr W n A fs h L h' L₂ := by
  refine ⟨⟨(L.ow.filterMap fun a => (h.get? a).map fun o => (a, o)) ++ L.led, L.ow⟩, ⟨fun _ => List.mem_append_right _, fun _ _ e => e⟩, ⟨P.hi.handled, P.hi.room, P.hi.units, P.hi.stk, P.hi.base, fun p hp => ?_, ⟨fun p hp hc => ?_, P.hi.nb.2⟩⟩, fun v d d' R e => ?_, fun h' L' a => ?_⟩
  · rcases List.mem_append.mp hp with hp | hp
    · obtain ⟨a, ha, hm⟩ := List.mem_filterMap.mp hp
      obtain ⟨vs, c, e⟩ := own_off P ha
      rw [e] at hm
      cases hm
      exact ⟨e, rfl⟩
    · exact P.hi.led p hp
  · rcases List.mem_append.mp hp with hp | hp
    · obtain ⟨a, ha, hm⟩ := List.mem_filterMap.mp hp
      obtain ⟨vs, c, e⟩ := own_off P ha
      rw [e] at hm
      cases hm
      exact P.hi.nb.2 a ha
    · exact P.hi.nb.1 p hp hc
  · have hle : L.le ⟨(L.ow.filterMap fun a => (h.get? a).map fun o => (a, o)) ++ L.led, L.ow⟩ := ⟨fun _ => List.mem_append_right _, fun _ _ e => e⟩
    cases R with
    | @own k a hk =>
      unfold St.see at e
      dsimp only at e
      cases hq : S.own[k]? with
      | none => rw [hq] at e; cases e
      | some w =>
        cases w with
        | list ds =>
          rw [hq] at e
          cases e
          obtain ⟨vs, c, e1, r⟩ := own_at P hq hk
          exact .list (List.mem_append_left _ (List.mem_filterMap.mpr ⟨a, List.mem_of_getElem? hk, by rw [e1]; rfl⟩)) (r.mono hle)
    | none => cases e; exact .none
    | bool b => cases e; exact .bool b
    | int i t => cases e; exact .int i t
    | str x t => cases e; exact Rep.str x t
    | list hm r => cases e; exact (Rep.list hm r).mono hle
    | tup hm r => cases e; exact (Rep.tup hm r).mono hle
    | range hm => cases e; exact (Rep.range hm).mono hle
    | set hm x y => cases e; exact (Rep.set hm x y).mono hle
  · obtain ⟨hi, kp, add, rfl, ha⟩ := a
    exact ⟨⟨add ++ L.led, L.ow⟩, ⟨hi.handled, hi.room, hi.units, hi.stk, hi.base, fun p hp => hi.led p ((List.mem_append.mp hp).elim (fun q => List.mem_append_left _ q) fun q => List.mem_append_right _ (List.mem_append_right _ q)), hi.nb.sub (fun p hp => (List.mem_append.mp hp).elim (fun q => List.mem_append_left _ q) fun q => List.mem_append_right _ (List.mem_append_right _ q)) fun a ha => ha⟩, kp, add, rfl, ha⟩
end

/-- an operation on values -/
def OpN (W : Wd) (n : Nat) (t : List Value → Sem Value) (ds : List D) (d : D) : Prop :=
  ∀ (A : Around) (fs : List Addr) (L : Lg) (vs : List Value), Reps L vs ds → VOp W n A fs (t vs) L fun l v => Rep l v d
def seeAll (S : St) : List D → Option (List D)
  | [] => some []
  | d :: r => match S.see d, seeAll S r with
    | some x, some y => some (x :: y)
    | _, _ => none
def apP (S : St) (f : List D → Option D) (ds : List D) : Option D :=
  if ds.any D.isOwn then
    match seeAll S ds with
    | some ds' => match f ds' with
      | some d => if d.flat then some d else none
      | none => none
    | none => none
  else f ds
section
variable {W : Wd} {n : Nat} {A : Around} {fs : List Addr} {nm : List (Str × NameKind)} {cs : List Str} {env : Env} {h₀ h h' : Heap} {lo : Nat} {S : St} {L L' : Lg} {s : Shared}
theorem ap_ok {t : List Value → Sem Value} {f : List D → Option D} {ds : List D} {d : D} {vs : List Value} {Q : Value → Shared → Prop} (hf : ∀ ds d, f ds = some d → OpN W n t ds d) (P : Pre W n A fs nm cs env h₀ lo S s.heap L) (R : Reps L vs ds) (e : apP S f ds = some d)
    (k : ∀ v h' tk L', Arr W n A fs s.heap L h' L' → Rep L' v d → Q v { s with heap := h', toks := tk }) : wpAny W.M A (t vs) Q NoE s := by
  unfold apP at e
  split at e
  · obtain ⟨L₁, hle, H₁, hs, hb⟩ := freeze P
    cases h1 : seeAll S ds with
    | none => rw [h1] at e; cases e
    | some ds' =>
      rw [h1] at e
      dsimp only at e
      cases h2 : f ds' with
      | none => rw [h2] at e; cases e
      | some d2 =>
        rw [h2] at e
        dsimp only at e
        split at e
        · rename_i hfl
          cases e
          have R' : Reps L₁ vs ds' := by
            clear h2
            rename_i hany
            clear hany
            induction ds generalizing vs ds' with
            | nil => cases R; cases h1; exact .nil
            | cons x r ih =>
              cases R with
              | cons R1 R2 =>
                unfold seeAll at h1
                cases q1 : S.see x with
                | none => rw [q1] at h1; cases h1
                | some x' =>
                  cases q2 : seeAll S r with
                  | none => rw [q1, q2] at h1; cases h1
                  | some r' =>
                    rw [q1, q2] at h1
                    cases h1
                    exact .cons (hs _ _ _ R1 q1) (ih (ds' := r') R2 q2)
          refine hf ds' d h2 A fs L₁ vs R' s Q H₁ fun v h' tk L' a r => ?_
          obtain ⟨L₂, a₂⟩ := hb h' L' a
          exact k v h' tk L₂ a₂ (r.flat hfl)
        · cases e
  · exact hf ds d e A fs L vs R s Q P.hi k

/-- the items of a display or a call -/
inductive EvL (W : Wd) (n : Nat) (nm : List (Str × NameKind)) (cs : List Str) (S : St) : List PySem.Expr → List D → Prop
  | nil : EvL W n nm cs S [] []
  | cons {e : PySem.Expr} {es : List PySem.Expr} {d : D} {ds : List D} : EvD W n nm cs S e d → (∀ env, starEach (e :: es) env = (false, eval e env) :: starEach es env) → EvL W n nm cs S es ds → EvL W n nm cs S (e :: es) (d :: ds)
theorem ev_list {es : List PySem.Expr} {ds : List D} {pos : Pos} (x : EvL W n nm cs S es ds) : ∀ {L : Lg} {s : Shared} {Q : List Value → Shared → Prop}, Pre W n A fs nm cs env h₀ lo S s.heap L →
    (∀ vs h' tk L', Arr W n A fs s.heap L h' L' → Reps L' vs ds → Q vs { s with heap := h', toks := tk }) → wpAny W.M A (spliced (backTo pos (starEach es env))) Q NoE s := by
  induction x with
  | nil => intro L s Q P k; exact spliced_none (k [] s.heap s.toks L (.refl P.hi) .nil)
  | cons x hs _ ih =>
    intro L s Q P k
    refine spliced_more (ev_bind x P fun v h1 t1 L1 P1 a1 R1 => ih P1 fun vs h2 t2 L2 a2 R2 => ?_) (hs env)
    exact k (v :: vs) h2 t2 L2 (a1.trans a2) (.cons (R1.mono a2.le) R2)
theorem EvL.plain {es : List PySem.Expr} {ds : List D} {pos : Pos} {env : Env} (x : EvL W n nm cs S es ds) : (backTo pos (starEach es env)).any (·.1) = false := by
  induction x with
  | nil => rfl
  | cons x hs _ ih =>
    rw [hs env]
    show (false || (backTo pos (starEach _ env)).any (·.1)) = false
    rw [ih]; rfl
theorem ev_two {l r : PySem.Expr} {d₁ d₂ d : D} {t : List Value → Sem Value} {f : List D → Option D} (x : EvD W n nm cs S l d₁) (y : EvD W n nm cs S r d₂) (hf : ∀ ds d, f ds = some d → OpN W n t ds d) (e : apP S f [d₁, d₂] = some d)
    {Q : Value → Shared → Prop} (P : Pre W n A fs nm cs env h₀ lo S s.heap L) (k : ∀ v h' tk L', Arr W n A fs s.heap L h' L' → Rep L' v d → Q v { s with heap := h', toks := tk }) :
    wpAny W.M A (eval l env) (fun a s₁ => wpAny W.M A (eval r env) (fun b s₂ => wpAny W.M A (t [a, b]) Q NoE s₂) NoE s₁) NoE s := by
  refine ev_bind x P fun v₁ h1 t1 L1 P1 a1 R1 => ?_
  refine ev_bind y P1 fun v₂ h2 t2 L2 P2 a2 R2 => ?_
  refine ap_ok hf P2 (.cons (R1.mono a2.le) (.cons R2 .nil)) e fun v h3 t3 L3 a3 R3 => ?_
  exact k v h3 t3 L3 ((a1.trans a2).trans a3) R3
def binT (op : Operator) : List Value → Sem Value
  | [a, b] => binaryOp op a b
  | _ => pure .none
def cmpT (op : CmpOp) : List Value → Sem Value
  | [a, b] => compareOp op a b
  | _ => pure .none
theorem ev_bin {l r : PySem.Expr} {op : Operator} {pos : Pos} {d₁ d₂ d : D} {f : List D → Option D} (x : EvD W n nm cs S l d₁) (y : EvD W n nm cs S r d₂) (hf : ∀ ds d, f ds = some d → OpN W n (binT op) ds d) (e : apP S f [d₁, d₂] = some d) : EvD W n nm cs S (.BinOp l op r pos) d :=
  fun _ _ _ _ _ _ _ _ P k => wpAny_BinOp (ev_two (t := binT op) x y hf e P k)
theorem ev_cmp {l r : PySem.Expr} {op : CmpOp} {pos : Pos} {d₁ d₂ d : D} {f : List D → Option D} (x : EvD W n nm cs S l d₁) (y : EvD W n nm cs S r d₂) (hf : ∀ ds d, f ds = some d → OpN W n (cmpT op) ds d) (e : apP S f [d₁, d₂] = some d) (hm : behindInMarks op r = false) : EvD W n nm cs S (.Compare l [op] [r] pos) d :=
  fun _ _ _ _ _ _ _ _ P k => wpAny_Compare1 (ev_two (t := cmpT op) x y hf e P k) hm
theorem ts_cmp {l r : PySem.Expr} {op : CmpOp} {pos : Pos} {d₁ d₂ : D} {b : Bool} {w : Env → Sem Value} {f : List D → Option D} (x : EvD W n nm cs S l d₁) (y : EvD W n nm cs S r d₂) (hf : ∀ ds d, f ds = some d → OpN W n (cmpT op) ds d) (e : apP S f [d₁, d₂] = some (.bool b)) (hm : behindInMarks op r = false) : TsW W n nm cs S (.Compare l [op] [r] pos) w b :=
  fun _ _ _ _ _ _ _ _ P k => wpAny_isTrue_Compare1 (ev_two (t := cmpT op) x y hf e P fun v h' tk L' a R => by cases R; exact wpAny_truthy_bool (k h' tk L' a)) hm
/-- the truth of a value -/
theorem ts_plain {e : PySem.Expr} {d : D} {b : Bool} (x : EvD W n nm cs S e d) (t : ∀ (A : Around) (fs : List Addr) (L : Lg) (v : Value) (env : Env) (h₀ : Heap) (lo : Nat) (s : Shared) (Q : Bool → Shared → Prop), Rep L v d → Pre W n A fs nm cs env h₀ lo S s.heap L → (∀ tk, Q b { s with toks := tk }) → wpAny W.M A (truthy v) Q NoE s)
    (hw : ∀ env, PySem.isTrue e env (eval e env) = (do let v ← eval e env; standAt (Expr.pos e); holding [v] (truthy v))) : TsU W n nm cs S e b :=
  fun A fs env h₀ lo s L Q P k => isTrue_plain (ev_bind x P fun v h' tk L' P' a R => t A fs _ v env h₀ lo _ _ R P' fun tk' => k h' tk' L' a) (hw env)
theorem ts_and_nil {pos : Pos} {w : Env → Sem Value} : TsW W n nm cs S (.BoolOp .And [] pos) w true := fun _ _ _ _ _ s L _ P k => isTrue_and_nil (k s.heap s.toks L (.refl P.hi))
theorem ts_and {e : PySem.Expr} {rest : List PySem.Expr} {pos : Pos} {b c : Bool} {w : Env → Sem Value} (x : TsU W n nm cs S e b) (y : b = true → TsW W n nm cs S (.BoolOp .And rest pos) w c) : TsW W n nm cs S (.BoolOp .And (e :: rest) pos) w (b && c) := by
  intro A fs env h₀ lo s L Q P k
  refine isTrue_and (x A fs env h₀ lo s L _ P fun h' tk L' a => ?_)
  cases b with
  | false => exact k h' tk L' a
  | true => exact y rfl A fs env h₀ lo _ _ _ (P.arr a) fun h2 t2 L2 a2 => k h2 t2 L2 (a.trans a2)
theorem ev_List {es : List PySem.Expr} {ds : List D} {pos : Pos} (x : EvL W n nm cs S es ds) (hz : ds.length ≤ 1000) : EvD W n nm cs S (.List es pos) (.list ds) := by
  intro A fs env h₀ lo s L Q P k
  refine List_ (ev_list x P fun vs h1 t1 L1 a1 R1 => ?_)
  have a2 := Arr.push a1.hi (o := { cls := .type "list", data := .seq vs.toArray }) rfl rfl
  refine wpAny_newObj_type (k _ _ t1 _ (a1.trans a2) (.list (vs := vs) (n := 0) (.head _) (R1.mono a2.le))) ?_
  show vs.toArray.size ≤ sizeLine
  rw [List.size_toArray, R1.length, sizeLine_eq]; omega
theorem ev_Tuple {es : List PySem.Expr} {ds : List D} {j : Nat} {pos : Pos} (x : EvL W n nm cs S es ds) (hz : ds.length ≤ 1000) : EvD W n nm cs S (.Tuple es j pos) (.tup ds) := by
  intro A fs env h₀ lo s L Q P k
  refine Tuple_ (ev_list x P fun vs h1 t1 L1 a1 R1 => ?_)
  have a2 := Arr.push a1.hi (o := { cls := .type "tuple", data := .seq vs.toArray }) rfl rfl
  refine wpAny_newObj_type (k _ _ t1 _ (a1.trans a2) (.tup (vs := vs) (n := 0) (.head _) (R1.mono a2.le))) ?_
  show vs.toArray.size ≤ sizeLine
  rw [List.size_toArray, R1.length, sizeLine_eq]; omega
end
end
section
open PySem PySem.W PyProof.Rows PySem.Spec PySem.Calls
set_option maxRecDepth 100000
set_option maxHeartbeats 1000000
theorem no_some {α : Type} {x : α} {P : Prop} (h : (none : Option α) = some x) : P := by cases h
def pureP : Nat → D → Bool
  | _, .none => true
  | _, .bool _ => true
  | _, .int _ => true
  | _, .str _ => true
  | k + 1, .list l => l.all (pureP k)
  | k + 1, .tup l => l.all (pureP k)
  | _, _ => false
def allP : List (Option Bool) → Option Bool
  | [] => some true
  | some b :: r => match allP r with
    | some c => some (b && c)
    | none => none
  | none :: _ => none
def eqP : Nat → D → D → Option Bool
  | _, .int a, .int b => some (a == b)
  | _, .bool a, .bool b => some (a == b)
  | _, .str a, .str b => some (a == b)
  | k + 1, .list l, .list r => if l.all (pureP k) && r.all (pureP k) then (if l.length == r.length then allP (List.zipWith (eqP k) l r) else some false) else none
  | _, _, _ => none
theorem pure_int (k : Nat) (i : Int) : pureP k (.int i) = true := by cases k <;> rfl
theorem pure_bool (k : Nat) (i : Bool) : pureP k (.bool i) = true := by cases k <;> rfl
theorem pure_str (k : Nat) (i : Str) : pureP k (.str i) = true := by cases k <;> rfl
def EqI (k : Nat) (d d' : D) (b : Bool) : Prop := (∃ i j, d = .int i ∧ d' = .int j ∧ b = (i == j)) ∨ (∃ i j, d = .bool i ∧ d' = .bool j ∧ b = (i == j)) ∨ (∃ i j, d = .str i ∧ d' = .str j ∧ b = (i == j)) ∨ ∃ m l r, k = m + 1 ∧ d = .list l ∧ d' = .list r
theorem eqP_inv : ∀ {k : Nat} {d d' : D} {b : Bool}, eqP k d d' = some b → EqI k d d' b := by
  intro k d d' b h
  cases d with
  | int i => cases d' with
    | int j => exact Or.inl ⟨i, j, rfl, rfl, by cases k <;> (cases h; rfl)⟩
    | _ => cases k <;> exact no_some h
  | bool i => cases d' with
    | bool j => exact Or.inr (.inl ⟨i, j, rfl, rfl, by cases k <;> (cases h; rfl)⟩)
    | _ => cases k <;> exact no_some h
  | str i => cases d' with
    | str j => exact Or.inr (.inr (.inl ⟨i, j, rfl, rfl, by cases k <;> (cases h; rfl)⟩))
    | _ => cases k <;> exact no_some h
  | list l => cases k with
    | zero => cases d' <;> exact no_some h
    | succ m => cases d' with
      | list r => exact Or.inr (.inr (.inr ⟨m, l, r, rfl, rfl, rfl⟩))
      | _ => exact no_some h
  | _ => cases k <;> exact no_some h
theorem eqP_pure {k : Nat} {d d' : D} {b : Bool} (h : eqP k d d' = some b) : pureP k d = true ∧ pureP k d' = true := by
  rcases eqP_inv h with ⟨i, j, rfl, rfl, _⟩ | ⟨i, j, rfl, rfl, _⟩ | ⟨i, j, rfl, rfl, _⟩ | ⟨m, l, r, rfl, rfl, rfl⟩
  · exact ⟨pure_int _ _, pure_int _ _⟩
  · exact ⟨pure_bool _ _, pure_bool _ _⟩
  · exact ⟨pure_str _ _, pure_str _ _⟩
  · unfold eqP at h
    split at h
    · rename_i q
      rw [Bool.and_eq_true] at q
      exact q
    · cases h
theorem Rep.intE {L : Lg} {v : Value} {i : Int} (R : Rep L v (.int i)) : ∃ t, v = .int i t := by cases R; exact ⟨_, rfl⟩
theorem Rep.boolE {L : Lg} {v : Value} {b : Bool} (R : Rep L v (.bool b)) : v = .bool b := by cases R; rfl
theorem Rep.strE {L : Lg} {v : Value} {x : Str} (R : Rep L v (.str x)) : ∃ t, v = .str x t := by cases R; exact ⟨_, rfl⟩
theorem Rep.noneE {L : Lg} {v : Value} (R : Rep L v .none) : v = .none := by cases R; rfl
theorem Rep.lsE {L : Lg} {v : Value} {l : List D} (R : Rep L v (.list l)) : ∃ a us c, v = .ref a ∧ (a, lob us c) ∈ L.led ∧ Reps L us l := by cases R with | list m r => exact ⟨_, _, _, rfl, m, r⟩
theorem Rep.tpE {L : Lg} {v : Value} {l : List D} (R : Rep L v (.tup l)) : ∃ a us c, v = .ref a ∧ (a, tob us c) ∈ L.led ∧ Reps L us l := by cases R with | tup m r => exact ⟨_, _, _, rfl, m, r⟩
theorem Rep.ofInt {L : Lg} {i : Int} {t : Tok} {d : D} (R : Rep L (.int i t) d) : d = .int i := by cases R; rfl
theorem Rep.ofBool {L : Lg} {i : Bool} {d : D} (R : Rep L (.bool i) d) : d = .bool i := by cases R; rfl
theorem Rep.ofStr {L : Lg} {i : Str} {t : Tok} {d : D} (R : Rep L (.str i t) d) : d = .str i := by cases R; rfl
theorem Rep.ofNone {L : Lg} {d : D} (R : Rep L .none d) : d = .none := by cases R; rfl
theorem Reps.two {L : Lg} {vs : List Value} {a b : D} (R : Reps L vs [a, b]) : ∃ v v', vs = [v, v'] ∧ Rep L v a ∧ Rep L v' b := by
  cases R with
  | cons r1 r => cases r with
    | cons r2 r => cases r; exact ⟨_, _, rfl, r1, r2⟩
theorem Reps.nilE {L : Lg} {ds : List D} (R : Reps L [] ds) : ds = [] := by cases R; rfl
theorem Reps.ofCons {L : Lg} {v : Value} {us : List Value} {es : List D} (R : Reps L (v :: us) es) : ∃ d ds, es = d :: ds ∧ Rep L v d ∧ Reps L us ds := by
  cases R with
  | cons r1 r => exact ⟨_, _, rfl, r1, r⟩
theorem seq_inj {cl cl' : Value} {vs vs' : List Value} {c c' : Nat} (e : ({ cls := cl, data := .seq vs.toArray c } : Obj) = { cls := cl', data := .seq vs'.toArray c' }) : cl = cl' ∧ vs = vs' := by
  injection e with e1 _ e
  injection e with e _
  have e := congrArg Array.toList e
  simp only [List.toList_toArray] at e
  exact ⟨e1, e⟩
inductive PureK : D → Prop
  | none : PureK .none
  | bool (b) : PureK (.bool b)
  | int (i) : PureK (.int i)
  | str (x) : PureK (.str x)
  | list (l) : PureK (.list l)
  | tup (l) : PureK (.tup l)
theorem pureK {k : Nat} {d : D} (h : pureP k d = true) : PureK d := by
  cases d with
  | none => exact .none
  | bool => exact .bool _
  | int => exact .int _
  | str => exact .str _
  | list => exact .list _
  | tup => exact .tup _
  | _ => cases k <;> cases h
section
variable {W : Wd} {n : Nat} {A : Around} {fs : List Addr} {h : Heap} {L : Lg} {s : Shared}
def Led.fn (led : Led) (h : Heap) : Prop := ∀ p ∈ led, h.get? p.1 = some p.2 ∧ dataOk p.2 = true
theorem reps_fn {P : D → Bool} (ih : ∀ {v : Value} {d d' : D}, P d = true → P d' = true → Rep L v d → Rep L v d' → d = d') : ∀ {vs : List Value} {ds es : List D}, ds.all P = true → es.all P = true → Reps L vs ds → Reps L vs es → ds = es := by
  intro vs
  induction vs with
  | nil => intro ds es _ _ R R'; rw [R.nilE, R'.nilE]
  | cons v vs ih2 =>
    intro ds es p p' R R'
    obtain ⟨d, ds, rfl, r1, r2⟩ := R.ofCons
    obtain ⟨d', es, rfl, r1', r2'⟩ := R'.ofCons
    rw [List.all_cons, Bool.and_eq_true] at p p'
    rw [ih p.1 p'.1 r1 r1', ih2 p.2 p'.2 r2 r2']
theorem rep_fn (H : Led.fn L.led h) : ∀ (k : Nat) {v : Value} {d d' : D}, pureP k d = true → pureP k d' = true → Rep L v d → Rep L v d' → d = d' := by
  intro k
  induction k with
  | zero =>
    intro v d d' p p' R R'
    cases pureK p with
    | none => rw [R.noneE] at R'; exact R'.ofNone.symm
    | bool b => rw [R.boolE] at R'; exact R'.ofBool.symm
    | int i => obtain ⟨t, rfl⟩ := R.intE; exact R'.ofInt.symm
    | str i => obtain ⟨t, rfl⟩ := R.strE; exact R'.ofStr.symm
    | list l => cases p
    | tup l => cases p
  | succ k ih =>
    intro v d d' p p' R R'
    cases pureK p with
    | none => rw [R.noneE] at R'; exact R'.ofNone.symm
    | bool b => rw [R.boolE] at R'; exact R'.ofBool.symm
    | int i => obtain ⟨t, rfl⟩ := R.intE; exact R'.ofInt.symm
    | str i => obtain ⟨t, rfl⟩ := R.strE; exact R'.ofStr.symm
    | list l =>
      obtain ⟨a, us, c, rfl, m, r⟩ := R.lsE
      cases pureK p' with
      | list l' =>
        obtain ⟨a', us', c', e', m', r'⟩ := R'.lsE
        cases e'
        obtain ⟨_, rfl⟩ := seq_inj (Option.some.inj ((H _ m).1.symm.trans (H _ m').1))
        rw [reps_fn (fun x y => ih x y) p p' r r']
      | tup l' =>
        obtain ⟨a', us', c', e', m', r'⟩ := R'.tpE
        cases e'
        exact absurd (seq_inj (Option.some.inj ((H _ m).1.symm.trans (H _ m').1))).1 (by decide)
      | none => cases R'.noneE
      | bool b => cases R'.boolE
      | int i => obtain ⟨t, e⟩ := R'.intE; cases e
      | str i => obtain ⟨t, e⟩ := R'.strE; cases e
    | tup l =>
      obtain ⟨a, us, c, rfl, m, r⟩ := R.tpE
      cases pureK p' with
      | tup l' =>
        obtain ⟨a', us', c', e', m', r'⟩ := R'.tpE
        cases e'
        obtain ⟨_, rfl⟩ := seq_inj (Option.some.inj ((H _ m).1.symm.trans (H _ m').1))
        rw [reps_fn (fun x y => ih x y) p p' r r']
      | list l' =>
        obtain ⟨a', us', c', e', m', r'⟩ := R'.lsE
        cases e'
        exact absurd (seq_inj (Option.some.inj ((H _ m).1.symm.trans (H _ m').1))).1 (by decide)
      | none => cases R'.noneE
      | bool b => cases R'.boolE
      | int i => obtain ⟨t, e⟩ := R'.intE; cases e
      | str i => obtain ⟨t, e⟩ := R'.strE; cases e
theorem allP_some : ∀ {l : List (Option Bool)} {b : Bool}, allP l = some b → ∃ bs : List Bool, l = bs.map some ∧ b = bs.all id := by
  intro l
  induction l with
  | nil => intro b h; cases h; exact ⟨[], rfl, rfl⟩
  | cons x r ih =>
    intro b h
    cases x with
    | none => cases h
    | some c =>
      unfold allP at h
      cases q : allP r with
      | none => rw [q] at h; cases h
      | some c' =>
        rw [q] at h
        cases h
        obtain ⟨bs, e, e'⟩ := ih q
        exact ⟨c :: bs, by rw [e]; rfl, by rw [e']; rfl⟩
theorem eqP_refl : ∀ (k : Nat) {d : D} {b : Bool}, eqP k d d = some b → b = true := by
  intro k
  induction k with
  | zero => intro d b h; cases d <;> simp_all [eqP]
  | succ k ih =>
    intro d b h
    cases d with
    | list l =>
      unfold eqP at h
      split at h
      · rw [if_pos (by simp)] at h
        obtain ⟨bs, e, rfl⟩ := allP_some h
        clear h
        have : ∀ (l : List D) (bs : List Bool), List.zipWith (eqP k) l l = bs.map some → bs.all id = true := by
          intro l
          induction l with
          | nil => intro bs e; cases bs with
            | nil => rfl
            | cons _ _ => cases e
          | cons x r ih2 =>
            intro bs e
            cases bs with
            | nil => cases e
            | cons c bs =>
              rw [List.zipWith_cons_cons, List.map_cons] at e
              injection e with e1 e2
              rw [List.all_cons, ih2 bs e2, ih e1]
              rfl
        exact this l bs e
      · cases h
    | int _ => simp_all [eqP]
    | bool _ => simp_all [eqP]
    | str _ => simp_all [eqP]
    | _ => simp_all [eqP]
open SeqAt in
theorem rc_list {k : Nat} (ihE : ∀ {A : Around} {v v' : Value} {d d' : D} {b : Bool}, A.units + k < cLine → Rep L v d → Rep L v' d' → eqP k d d' = some b → EqAt A s v v' b) (H : Led.fn L.led s.heap) {A : Around} {a a' : Addr} {vs vs' : List Value} {c c' : Nat} {l r : List D} {b : Bool} (hu : A.units + (k + 1) < cLine)
    (m : (a, lob vs c) ∈ L.led) (m' : (a', lob vs' c') ∈ L.led) (R : Reps L vs l) (R' : Reps L vs' r) (e : eqP (k + 1) (.list l) (.list r) = some b) : RcAt A s (.ref a) (.ref a') b ∧ RcNeAt A s (.ref a) (.ref a') (!b) := by
  have hl : s.heap.IsList a vs.toArray := isList_lob (H _ m).1
  have hr : s.heap.IsList a' vs'.toArray := isList_lob (H _ m').1
  have n1 := R.length
  have n2 := R'.length
  unfold eqP at e
  split at e
  · split at e
    · rename_i hlen
      have hlen : l.length = r.length := by simpa using hlen
      obtain ⟨bs, e1, rfl⟩ := allP_some e
      have hbs : bs.length = l.length := by
        have := congrArg List.length e1
        simp [hlen] at this
        omega
      have he : ∀ j (h1 : j < vs.toArray.size) (h2 : j < vs'.toArray.size), EqAt A.in1 s vs.toArray[j] vs'.toArray[j] (bs.getD j false) := by
        intro j h1 h2
        simp only [List.size_toArray] at h1 h2
        have j1 : j < l.length := by omega
        have j2 : j < r.length := by omega
        have j3 : j < bs.length := by omega
        obtain ⟨u, g1, r1⟩ := R.get (List.getElem?_eq_getElem j1)
        obtain ⟨u', g2, r2⟩ := R'.get (List.getElem?_eq_getElem j2)
        have q1 : vs[j] = u := by rw [List.getElem?_eq_getElem h1] at g1; exact Option.some.inj g1
        have q2 : vs'[j] = u' := by rw [List.getElem?_eq_getElem h2] at g2; exact Option.some.inj g2
        have e2 : eqP k l[j] r[j] = some bs[j] := by
          have := congrArg (fun z => z[j]?) e1
          simp only [List.getElem?_zipWith, List.getElem?_eq_getElem j1, List.getElem?_eq_getElem j2, List.getElem?_map, List.getElem?_eq_getElem j3, Option.map_some] at this
          exact Option.some.inj this
        simp only [List.getElem_toArray]
        rw [q1, q2, List.getD_eq_getElem?_getD, List.getElem?_eq_getElem j3]
        exact ihE (by show A.units + 1 + k < cLine; omega) r1 r2 e2
      have hall : (List.range vs.toArray.size).all (fun j => bs.getD j false) = bs.all id := by
        rw [List.size_toArray, n1, ← hbs]
        clear he e1 hbs e
        rw [Bool.eq_iff_iff]
        simp only [List.all_eq_true, List.mem_range, id]
        constructor
        · intro hh x hx
          obtain ⟨j, hj, rfl⟩ := List.mem_iff_getElem.mp hx
          have := hh j hj
          rwa [List.getD_eq_getElem?_getD, List.getElem?_eq_getElem hj] at this
        · intro hh j hj
          rw [List.getD_eq_getElem?_getD, List.getElem?_eq_getElem hj]
          exact hh _ (List.getElem_mem hj)
      have hsz : vs.toArray.size = vs'.toArray.size := by simp; omega
      constructor
      · rw [← hall]; exact RcAt.lists hl hr hsz (by omega) he
      · rw [← hall]; exact RcNeAt.lists hl hr hsz (by omega) he
    · rename_i hlen
      cases e
      have hsz : (vs.toArray.size != vs'.toArray.size) = true := by
        simp only [List.size_toArray, n1, n2]
        simpa using hlen
      exact ⟨RcAt.lists_lengths hl hr hsz (by omega), RcNeAt.lists_lengths hl hr hsz (by omega)⟩
  · cases e
open SeqAt in
theorem eq_at (H : Led.fn L.led s.heap) : ∀ (k : Nat) {A : Around} {v v' : Value} {d d' : D} {b : Bool}, A.units + k < cLine → Rep L v d → Rep L v' d' → eqP k d d' = some b → EqAt A s v v' b := by
  intro k
  induction k with
  | zero =>
    intro A v v' d d' b hu R R' e
    rcases eqP_inv e with ⟨i, j, rfl, rfl, rfl⟩ | ⟨i, j, rfl, rfl, rfl⟩ | ⟨i, j, rfl, rfl, rfl⟩ | ⟨m, l, r, z, _⟩
    · obtain ⟨t, rfl⟩ := R.intE
      obtain ⟨u, rfl⟩ := R'.intE
      exact (MeetsSeq.EqGives.int _ _ _ _).at _ _
    · rw [R.boolE, R'.boolE]
      exact EqAt.bool_bool _ _
    · obtain ⟨t, rfl⟩ := R.strE
      obtain ⟨u, rfl⟩ := R'.strE
      exact EqAt.str_str _ _ _ _
    · cases z
  | succ k ih =>
    intro A v v' d d' b hu R R' e
    rcases eqP_inv e with ⟨i, j, rfl, rfl, rfl⟩ | ⟨i, j, rfl, rfl, rfl⟩ | ⟨i, j, rfl, rfl, rfl⟩ | ⟨m, l, r, z, rfl, rfl⟩
    · obtain ⟨t, rfl⟩ := R.intE
      obtain ⟨u, rfl⟩ := R'.intE
      exact (MeetsSeq.EqGives.int _ _ _ _).at _ _
    · rw [R.boolE, R'.boolE]
      exact EqAt.bool_bool _ _
    · obtain ⟨t, rfl⟩ := R.strE
      obtain ⟨u, rfl⟩ := R'.strE
      exact EqAt.str_str _ _ _ _
    · have hp := eqP_pure e
      obtain ⟨a, vs, c, rfl, ma, ra⟩ := R.lsE
      obtain ⟨a', vs', c', rfl, ma', ra'⟩ := R'.lsE
      by_cases hne : a = a'
      · subst hne
        rw [← rep_fn H (k + 1) hp.1 hp.2 R R'] at e
        rw [eqP_refl (k + 1) e]
        exact EqAt.same _
      · exact EqAt.of_refs hne (rc_list (fun {_ _ _ _ _ _} => ih) H hu ma ma' ra ra' e).1
end
end
section
open PySem PySem.W PyProof.Rows PySem.Spec PySem.Calls
set_option maxRecDepth 100000
set_option maxHeartbeats 1000000
def anyP : List (Option Bool) → Option Bool
  | [] => some false
  | some b :: r => match anyP r with
    | some c => some (b || c)
    | none => none
  | none :: _ => none
theorem anyP_some : ∀ {l : List (Option Bool)} {b : Bool}, anyP l = some b → ∃ bs : List Bool, l = bs.map some ∧ b = bs.any id := by
  intro l
  induction l with
  | nil => intro b h; cases h; exact ⟨[], rfl, rfl⟩
  | cons x r ih =>
    intro b h
    cases x with
    | none => cases h
    | some c =>
      unfold anyP at h
      cases q : anyP r with
      | none => rw [q] at h; exact no_some h
      | some c' =>
        rw [q] at h
        cases h
        obtain ⟨bs, e, e'⟩ := ih q
        exact ⟨c :: bs, by rw [e]; rfl, by rw [e']; rfl⟩
def inP (x : D) (ds : List D) : Option Bool := anyP (ds.map fun y => eqP 4 y x)
def ordP (f : Int → Int → Bool) : D → D → Option D
  | .int i, .int j => some (.bool (f i j))
  | _, _ => none
def eqD : D → D → Option D
  | .int i, .int j => some (.bool (i == j))
  | .str i, .str j => some (.bool (i.cps.toList == j.cps.toList))
  | .list l, .list r => (eqP 4 (.list l) (.list r)).map .bool
  | _, _ => none
def neD : D → D → Option D
  | .int i, .int j => some (.bool (i != j))
  | .list l, .list r => (eqP 4 (.list l) (.list r)).map fun b => .bool (!b)
  | _, _ => none
def inD (f : Bool → Bool) (a : D) : D → Option D
  | .str x => match a with
    | .str y => some (.bool (f (Txt.contains x y)))
    | _ => none
  | .list ds => (inP a ds).map fun b => .bool (f b)
  | _ => none
def isD (f : Bool → Bool) : D → D → Option D
  | .bool x, .bool y => some (.bool (f (x == y)))
  | _, _ => none
def cmpD : CmpOp → D → D → Option D
  | .Lt => ordP fun i j => decide (i < j)
  | .LtE => ordP fun i j => decide (i ≤ j)
  | .Gt => ordP fun i j => decide (i > j)
  | .GtE => ordP fun i j => decide (i ≥ j)
  | .Eq => eqD
  | .NotEq => neD
  | .In => inD fun b => b
  | .NotIn => inD fun b => !b
  | .Is => isD fun b => b
  | .IsNot => isD fun b => !b
def cmpP (op : CmpOp) : List D → Option D
  | [a, b] => cmpD op a b
  | _ => none
theorem ordP_inv {f : Int → Int → Bool} {a b d : D} (e : ordP f a b = some d) : ∃ i j, a = .int i ∧ b = .int j ∧ .bool (f i j) = d := by
  cases a with
  | int i => cases b with
    | int j => exact ⟨i, j, rfl, rfl, Option.some.inj e⟩
    | _ => exact no_some e
  | _ => exact no_some e
theorem isD_inv {f : Bool → Bool} {a b d : D} (e : isD f a b = some d) : ∃ i j, a = .bool i ∧ b = .bool j ∧ .bool (f (i == j)) = d := by
  cases a with
  | bool i => cases b with
    | bool j => exact ⟨i, j, rfl, rfl, Option.some.inj e⟩
    | _ => exact no_some e
  | _ => exact no_some e
theorem inD_inv {f : Bool → Bool} {a b d : D} (e : inD f a b = some d) : (∃ x y, a = .str y ∧ b = .str x ∧ .bool (f (Txt.contains x y)) = d) ∨ ∃ l c, b = .list l ∧ inP a l = some c ∧ .bool (f c) = d := by
  cases b with
  | str x => cases a with
    | str y => exact .inl ⟨x, y, rfl, rfl, Option.some.inj e⟩
    | _ => exact no_some e
  | list l =>
    obtain ⟨c, h1, h2⟩ := Option.map_eq_some_iff.mp e
    exact .inr ⟨l, c, rfl, h1, h2⟩
  | _ => exact no_some e
theorem eqD_inv {a b d : D} (e : eqD a b = some d) : (∃ i j, a = .int i ∧ b = .int j ∧ .bool (i == j) = d) ∨ (∃ i j : Str, a = .str i ∧ b = .str j ∧ .bool (i.cps.toList == j.cps.toList) = d) ∨ ∃ l r c, a = .list l ∧ b = .list r ∧ eqP 4 (.list l) (.list r) = some c ∧ .bool c = d := by
  cases a with
  | int i => cases b with
    | int j => exact .inl ⟨i, j, rfl, rfl, Option.some.inj e⟩
    | _ => exact no_some e
  | str i => cases b with
    | str j => exact .inr (.inl ⟨i, j, rfl, rfl, Option.some.inj e⟩)
    | _ => exact no_some e
  | list l => cases b with
    | list r =>
      obtain ⟨c, h1, h2⟩ := Option.map_eq_some_iff.mp e
      exact .inr (.inr ⟨l, r, c, rfl, rfl, h1, h2⟩)
    | _ => exact no_some e
  | _ => exact no_some e
theorem neD_inv {a b d : D} (e : neD a b = some d) : (∃ i j, a = .int i ∧ b = .int j ∧ .bool (i != j) = d) ∨ ∃ l r c, a = .list l ∧ b = .list r ∧ eqP 4 (.list l) (.list r) = some c ∧ .bool (!c) = d := by
  cases a with
  | int i => cases b with
    | int j => exact .inl ⟨i, j, rfl, rfl, Option.some.inj e⟩
    | _ => exact no_some e
  | list l => cases b with
    | list r =>
      obtain ⟨c, h1, h2⟩ := Option.map_eq_some_iff.mp e
      exact .inr ⟨l, r, c, rfl, rfl, h1, h2⟩
    | _ => exact no_some e
  | _ => exact no_some e
theorem pair_inv {f : D → D → Option D} {ds : List D} {d : D} {g : List D → Option D} (hg : ∀ ds, g ds = match ds with | [a, b] => f a b | _ => none) (e : g ds = some d) : ∃ a b, ds = [a, b] ∧ f a b = some d := by
  rw [hg] at e
  match ds, e with
  | [a, b], e => exact ⟨a, b, rfl, e⟩
section
variable {W : Wd} {n : Nat} {A : Around} {fs : List Addr} {h : Heap} {L : Lg} {s : Shared}
open SeqAt in
theorem in_e {x : D} {v : Value} {vs : List Value} {ds : List D} {b : Bool} (H : Led.fn L.led s.heap) (hu : A.units + 8 < cLine) (R : Rep L v x) (Rs : Reps L vs ds) (e : inP x ds = some b) :
    ∃ f : Value → Bool, (∀ y, y ∈ vs.toArray → EqAt A.in1 s y v (f y)) ∧ vs.toArray.any f = b := by
  classical
  obtain ⟨bs, e1, rfl⟩ := anyP_some e
  refine ⟨fun y => decide (∃ d, pureP 4 d = true ∧ Rep L y d ∧ eqP 4 d x = some true), fun y hy => ?_, ?_⟩
  · have hy : y ∈ vs := by simpa using hy
    clear e
    induction vs generalizing ds bs with
    | nil => cases hy
    | cons u us ih =>
      cases Rs with
      | @cons _ d _ ds r1 r2 =>
        cases bs with
        | nil => cases e1
        | cons c bs =>
          rw [List.map_cons, List.map_cons] at e1
          injection e1 with q1 q2
          rcases List.mem_cons.mp hy with rfl | hy
          · have hp := (eqP_pure q1).1
            have hd : decide (∃ d, pureP 4 d = true ∧ Rep L y d ∧ eqP 4 d x = some true) = c := by
              cases c with
              | true => exact decide_eq_true ⟨d, hp, r1, q1⟩
              | false =>
                refine decide_eq_false ?_
                rintro ⟨d', hp', r', e'⟩
                rw [rep_fn H 4 hp' hp r' r1, q1] at e'
                cases e'
            show EqAt A.in1 s y v (decide (∃ d, pureP 4 d = true ∧ Rep L y d ∧ eqP 4 d x = some true))
            rw [hd]
            exact eq_at H 4 (by show A.units + 1 + 4 < cLine; omega) r1 R q1
          · exact ih r2 (bs := bs) q2 (by simpa using hy) hy
  · clear e
    rw [← Array.any_toList]
    show vs.any _ = _
    induction vs generalizing ds bs with
    | nil =>
      cases Rs
      cases bs with
      | nil => rfl
      | cons _ _ => cases e1
    | cons u us ih =>
      cases Rs with
      | @cons _ d _ ds r1 r2 =>
        cases bs with
        | nil => cases e1
        | cons c bs =>
          rw [List.map_cons, List.map_cons] at e1
          injection e1 with q1 q2
          have hp := (eqP_pure q1).1
          have hd : decide (∃ d, pureP 4 d = true ∧ Rep L u d ∧ eqP 4 d x = some true) = c := by
            cases c with
            | true => exact decide_eq_true ⟨d, hp, r1, q1⟩
            | false =>
              refine decide_eq_false ?_
              rintro ⟨d', hp', r', e'⟩
              rw [rep_fn H 4 hp' hp r' r1, q1] at e'
              cases e'
          rw [List.any_cons, List.any_cons, hd, ih r2 bs q2]
          rfl
theorem cmp_ok (op : CmpOp) (ds : List D) (d : D) (e : cmpP op ds = some d) : OpN W n (cmpT op) ds d := by
  intro A fs L vs Rs s Q H k
  have kb : ∀ b, .bool b = d → Q (.bool b) s := fun b q => k (.bool b) s.heap s.toks L (.refl H) (by rw [← q]; exact .bool b)
  have hu := H.units
  obtain ⟨x, y, rfl, e2⟩ := pair_inv (f := cmpD op) (g := cmpP op) (fun _ => rfl) e
  clear e
  have e := e2
  clear e2
  obtain ⟨v, v', rfl, R1, R2⟩ := Rs.two
  show wpAny W.M A (compareOp op v v') Q NoE s
  cases op with
  | Lt => obtain ⟨i, j, rfl, rfl, q⟩ := ordP_inv e; obtain ⟨t, rfl⟩ := R1.intE; obtain ⟨u, rfl⟩ := R2.intE; exact P.lt_int (kb _ q)
  | LtE => obtain ⟨i, j, rfl, rfl, q⟩ := ordP_inv e; obtain ⟨t, rfl⟩ := R1.intE; obtain ⟨u, rfl⟩ := R2.intE; exact P.le_int (kb _ q)
  | Gt => obtain ⟨i, j, rfl, rfl, q⟩ := ordP_inv e; obtain ⟨t, rfl⟩ := R1.intE; obtain ⟨u, rfl⟩ := R2.intE; exact P.gt_int (kb _ q)
  | GtE => obtain ⟨i, j, rfl, rfl, q⟩ := ordP_inv e; obtain ⟨t, rfl⟩ := R1.intE; obtain ⟨u, rfl⟩ := R2.intE; exact P.ge_int (kb _ q)
  | Eq =>
    rcases eqD_inv e with ⟨i, j, rfl, rfl, q⟩ | ⟨i, j, rfl, rfl, q⟩ | ⟨l, r, c, rfl, rfl, h1, q⟩
    · obtain ⟨t, rfl⟩ := R1.intE; obtain ⟨u, rfl⟩ := R2.intE; exact P.eq_int (kb _ q)
    · obtain ⟨t, rfl⟩ := R1.strE; obtain ⟨u, rfl⟩ := R2.strE; exact P.eq_str (kb _ q)
    · obtain ⟨a, us, c1, rfl, m, r1⟩ := R1.lsE
      obtain ⟨a', us', c2, rfl, m', r2⟩ := R2.lsE
      exact (rc_list (k := 3) (fun {A v v' d d' b} => eq_at (s := s) (fun p hp => H.led p hp) 3) (fun p hp => H.led p hp) (A := A) (by omega) m m' r1 r2 h1).1 W.prog W.w NoE Q (kb _ q)
  | NotEq =>
    rcases neD_inv e with ⟨i, j, rfl, rfl, q⟩ | ⟨l, r, c, rfl, rfl, h1, q⟩
    · obtain ⟨t, rfl⟩ := R1.intE; obtain ⟨u, rfl⟩ := R2.intE; exact P.ne_int (kb _ q)
    · obtain ⟨a, us, c1, rfl, m, r1⟩ := R1.lsE
      obtain ⟨a', us', c2, rfl, m', r2⟩ := R2.lsE
      exact (rc_list (k := 3) (fun {A v v' d d' b} => eq_at (s := s) (fun p hp => H.led p hp) 3) (fun p hp => H.led p hp) (A := A) (by omega) m m' r1 r2 h1).2 W.prog W.w NoE Q (kb _ q)
  | In =>
    rcases inD_inv (f := fun b => b) (a := x) (b := y) e with ⟨i, j, rfl, rfl, q⟩ | ⟨l, c, rfl, h1, q⟩
    · obtain ⟨t, rfl⟩ := R1.strE; obtain ⟨u, rfl⟩ := R2.strE; exact SB.contains (kb _ q)
    · obtain ⟨a, us, c1, rfl, m, r⟩ := R2.lsE
      obtain ⟨f, f1, f2⟩ := in_e (A := A) (fun p hp => H.led p hp) (by omega) R1 r h1
      exact SeqAt.in_listAt f (isList_lob (H.led _ m).1) f1 (kb _ (by rw [f2]; exact q))
  | NotIn =>
    rcases inD_inv e with ⟨i, j, rfl, rfl, q⟩ | ⟨l, c, rfl, h1, q⟩
    · obtain ⟨t, rfl⟩ := R1.strE; obtain ⟨u, rfl⟩ := R2.strE; exact SB.notContains (kb _ q)
    · obtain ⟨a, us, c1, rfl, m, r⟩ := R2.lsE
      obtain ⟨f, f1, f2⟩ := in_e (A := A) (fun p hp => H.led p hp) (by omega) R1 r h1
      exact SeqAt.notIn_listAt f (isList_lob (H.led _ m).1) f1 (kb _ (by rw [f2]; exact q))
  | Is =>
    obtain ⟨i, j, rfl, rfl, q⟩ := isD_inv (f := fun b => b) (a := x) (b := y) e
    rw [R1.boolE, R2.boolE]
    exact wpAny_is_plain rfl (by cases i <;> cases j <;> exact kb _ q)
  | IsNot =>
    obtain ⟨i, j, rfl, rfl, q⟩ := isD_inv e
    rw [R1.boolE, R2.boolE]
    exact wpAny_isNot_plain rfl (by cases i <;> cases j <;> exact kb _ q)
end
end
section
open PySem PySem.W PyProof.Rows PySem.Spec PySem.Calls
set_option maxRecDepth 100000
set_option maxHeartbeats 1000000
def b64 (a : Int) : Bool := decide (a.natAbs < 2 ^ 63)
theorem intBits_le {a : Int} {k : Nat} (h : a.natAbs < 2 ^ k) : Builtin.Int.intBits a ≤ k := by
  unfold Builtin.Int.intBits
  split
  · omega
  · rename_i hz
    have hz : a.natAbs ≠ 0 := by intro q; apply hz; simp; omega
    exact (Nat.log2_lt hz).mpr h
theorem intBits_64 {a : Int} (h : b64 a = true) : Builtin.Int.intBits a ≤ 63 := intBits_le (of_decide_eq_true h)
theorem noPylong {a b : Int} (h : b64 b = true) : Builtin.divisionGoesByPylong a b = false := by
  have h := of_decide_eq_true h
  unfold Builtin.divisionGoesByPylong
  have hd : (if b == 0 then 0 else b.natAbs.log2 / 30 + 1) ≤ 300 := by
    split
    · omega
    · rename_i hz
      have hz : b.natAbs ≠ 0 := by intro q; apply hz; simp; omega
      have : b.natAbs.log2 < 63 := (Nat.log2_lt hz).mpr h
      omega
  have hd' : decide ((if b == 0 then 0 else b.natAbs.log2 / 30 + 1) > 300) = false := by rw [decide_eq_false_iff_not]; omega
  simp only [hd', Bool.false_and]
def arP (f : Int → Int → Option D) : D → D → Option D
  | .int i, .int j => f i j
  | _, _ => none
def addD : D → D → Option D
  | .int i, .int j => some (.int (i + j))
  | .list l, .list r => if decide (l.length + r.length ≤ 100000) then some (.list (l ++ r)) else none
  | _, _ => none
def binD : Operator → D → D → Option D
  | .Add => addD
  | .Sub => arP fun i j => some (.int (i - j))
  | .Mult => arP fun i j => if b64 i || b64 j then some (.int (i * j)) else none
  | .FloorDiv => arP fun i j => if j != 0 && b64 j then some (.int (i.fdiv j)) else none
  | .Mod => arP fun i j => if j != 0 then some (.int (i.fmod j)) else none
  | .Pow => arP fun i j => if decide (0 ≤ j) && decide (j ≤ 1000) && b64 i then some (.int (i ^ j.toNat)) else none
  | .BitAnd => arP fun i j => some (.int (Builtin.bitAnd i j))
  | .BitOr => arP fun i j => some (.int (Builtin.bitOr i j))
  | .BitXor => arP fun i j => some (.int (Builtin.bitXor i j))
  | _ => fun _ _ => none
def binP (op : Operator) : List D → Option D
  | [a, b] => binD op a b
  | _ => none
theorem arP_inv {f : Int → Int → Option D} {a b d : D} (e : arP f a b = some d) : ∃ i j, a = .int i ∧ b = .int j ∧ f i j = some d := by
  cases a with
  | int i => cases b with
    | int j => exact ⟨i, j, rfl, rfl, e⟩
    | _ => exact no_some e
  | _ => exact no_some e
theorem gate_inv {c : Bool} {x d : D} (e : (if c then some x else none) = some d) : c = true ∧ x = d := by
  cases c with
  | true => exact ⟨rfl, Option.some.inj e⟩
  | false => cases e
theorem addD_inv {a b d : D} (e : addD a b = some d) : (∃ i j, a = .int i ∧ b = .int j ∧ .int (i + j) = d) ∨ ∃ l r, a = .list l ∧ b = .list r ∧ l.length + r.length ≤ 100000 ∧ .list (l ++ r) = d := by
  cases a with
  | int i => cases b with
    | int j => exact .inl ⟨i, j, rfl, rfl, Option.some.inj e⟩
    | _ => exact no_some e
  | list l => cases b with
    | list r =>
      obtain ⟨h1, h2⟩ := gate_inv e
      exact .inr ⟨l, r, rfl, rfl, of_decide_eq_true h1, h2⟩
    | _ => exact no_some e
  | _ => exact no_some e
section
variable {W : Wd} {n : Nat} {A : Around} {fs : List Addr} {h : Heap} {L : Lg} {s : Shared}
theorem pow_ok {i j : Int} {t u : Tok} {Q : Value → Shared → Prop} (h0 : 0 ≤ j) (h1 : j ≤ 1000) (h2 : b64 i = true) (ki : ∀ x : Int, D.int x = D.int (i ^ j.toNat) → Q (.int x s.toks) { s with toks := s.toks + 1 }) : wpAny W.M A (binaryOp .Pow (.int i t) (.int j u)) Q NoE s := by
  refine AutoIntOpsIf.pow ?_
  rw [if_pos h0]
  obtain ⟨m, rfl⟩ := Int.eq_ofNat_of_zero_le h0
  rw [show ((m : Int)).toNat = m from rfl] at ki
  split
  · rename_i hz
    have hz : m = 0 := by have := eq_of_beq hz; omega
    subst hz
    exact ki 1 (by simp)
  · rename_i hz
    have hz : m ≠ 0 := by intro q; subst q; exact hz rfl
    split
    · rename_i ha
      refine ki i ?_
      rcases Bool.or_eq_true_iff.mp ha with ha | ha
      · have ha := eq_of_beq ha
        subst ha
        refine Eq.symm ?_
        show D.int (0 ^ m) = _
        rw [Int.zero_pow hz]
      · have ha := eq_of_beq ha
        subst ha
        refine Eq.symm ?_
        show D.int (1 ^ m) = _
        rw [Int.one_pow]
    · split
      · rename_i ha
        have ha := eq_of_beq ha
        subst ha
        refine ki _ ?_
        refine Eq.symm ?_
        show D.int ((-1) ^ m) = _
        congr 1
        have key : ∀ m : Nat, (-1 : Int) ^ m = if ((m : Int) % 2 == 0) = true then 1 else -1 := by
          intro m
          induction m with
          | zero => rfl
          | succ m ih =>
            rw [Int.pow_succ, ih]
            rcases Nat.mod_two_eq_zero_or_one m with q | q
            · have e1 : ((m : Int) % 2 == 0) = true := by rw [beq_iff_eq]; omega
              have e2 : ¬ (((m + 1 : Nat) : Int) % 2 == 0) = true := by rw [beq_iff_eq]; omega
              rw [if_pos e1, if_neg e2]; rfl
            · have e1 : ¬ ((m : Int) % 2 == 0) = true := by rw [beq_iff_eq]; omega
              have e2 : (((m + 1 : Nat) : Int) % 2 == 0) = true := by rw [beq_iff_eq]; omega
              rw [if_neg e1, if_pos e2]; rfl
        exact key m
      · rw [if_neg ?_]
        · exact ki _ rfl
        · unfold Builtin.Int.intTooBig
          rw [decide_eq_true_eq]
          have := intBits_64 h2
          intro hh
          have h3 : ((Builtin.Int.intBits i : Nat) : Int) * (m : Int) ≤ 63 * 1000 := by
            have : ((Builtin.Int.intBits i : Nat) : Int) * (m : Int) = ((Builtin.Int.intBits i * m : Nat) : Int) := by push_cast; rfl
            rw [this]
            have h5 : Builtin.Int.intBits i * m ≤ 63 * 1000 := Nat.mul_le_mul (by omega) (by omega)
            omega
          have h4 : ((bitsLine : Nat) : Int) = 134217728 := rfl
          omega
theorem bin_ok (op : Operator) (ds : List D) (d : D) (e : binP op ds = some d) : OpN W n (binT op) ds d := by
  intro A fs L vs Rs s Q H k
  have ki : ∀ i : Int, .int i = d → Q (.int i s.toks) { s with toks := s.toks + 1 } := fun i q => k _ s.heap (s.toks + 1) L (.refl H) (by rw [← q]; exact .int i _)
  obtain ⟨x, y, rfl, e2⟩ := pair_inv (f := binD op) (g := binP op) (fun _ => rfl) e
  clear e
  have e := e2
  clear e2
  obtain ⟨v, v', rfl, R1, R2⟩ := Rs.two
  show wpAny W.M A (binaryOp op v v') Q NoE s
  by_cases hadd : op = .Add
  · subst hadd
    rcases addD_inv e with ⟨i, j, rfl, rfl, q⟩ | ⟨l, r, rfl, rfl, hb, q⟩
    · obtain ⟨t, rfl⟩ := R1.intE; obtain ⟨u, rfl⟩ := R2.intE; exact P.add_int (ki _ q)
    · obtain ⟨a', us', c', rfl, m', r'⟩ := R1.lsE
      obtain ⟨a, us, c, rfl, m, r⟩ := R2.lsE
      subst q
      refine P.add_list (H.led _ m').1 (H.led _ m).1 ?_ ?_
      · have a2 := Arr.push H (o := { cls := .type "list", data := .seq (us'.toArray ++ us.toArray) }) rfl rfl
        refine k _ _ s.toks _ a2 (.list (vs := us' ++ us) (n := 0) ?_ ((r'.mono a2.le).append (r.mono a2.le)))
        show _ ∈ _ :: _
        rw [show lob (us' ++ us) 0 = { cls := .type "list", data := .seq (us'.toArray ++ us.toArray) } by simp [lob]]
        exact .head _
      · simp only [List.size_toArray, r.length, r'.length, sizeLine_eq]
        omega
  · obtain ⟨f, hf, e⟩ : ∃ f, binD op x y = arP f x y ∧ arP f x y = some d := by
      cases op with
      | Add => exact absurd rfl hadd
      | Sub => exact ⟨_, rfl, e⟩
      | Mult => exact ⟨_, rfl, e⟩
      | FloorDiv => exact ⟨_, rfl, e⟩
      | Mod => exact ⟨_, rfl, e⟩
      | Pow => exact ⟨_, rfl, e⟩
      | BitAnd => exact ⟨_, rfl, e⟩
      | BitOr => exact ⟨_, rfl, e⟩
      | BitXor => exact ⟨_, rfl, e⟩
      | _ => exact no_some e
    obtain ⟨i, j, rfl, rfl, q⟩ := arP_inv e
    rw [← show arP f (.int i) (.int j) = f i j from rfl, ← hf] at q
    clear hf e
    obtain ⟨t, rfl⟩ := R1.intE
    obtain ⟨u, rfl⟩ := R2.intE
    cases op with
    | Add => exact absurd rfl hadd
    | Sub => exact P.sub_int (ki _ (Option.some.inj q))
    | Mult =>
      obtain ⟨hb, q⟩ := gate_inv q
      refine P.mul_int (ki _ q) ?_
      rcases Bool.or_eq_true_iff.mp hb with hb | hb
      · exact IntMulOk.of_left (Nat.le_trans (intBits_64 hb) (by decide))
      · exact IntMulOk.of_right (Nat.le_trans (intBits_64 hb) (by decide))
    | FloorDiv =>
      obtain ⟨hb, q⟩ := gate_inv q
      rw [Bool.and_eq_true] at hb
      refine AutoIntOpsIf.floordiv ?_
      rw [if_neg (by simpa using hb.1), if_neg (by rw [noPylong hb.2]; exact Bool.false_ne_true)]
      exact ki _ q
    | Mod =>
      obtain ⟨hb, q⟩ := gate_inv q
      refine AutoIntOpsIf.mod ?_
      rw [if_neg (by simpa using hb)]
      exact ki _ q
    | Pow =>
      obtain ⟨hb, q⟩ := gate_inv q
      rw [Bool.and_eq_true, Bool.and_eq_true, decide_eq_true_eq, decide_eq_true_eq] at hb
      exact pow_ok (W := W) hb.1.1 hb.1.2 hb.2 fun x hx => ki x (hx.trans q)
    | BitAnd => exact and_int (ki _ (Option.some.inj q))
    | BitOr => exact or_int (ki _ (Option.some.inj q))
    | BitXor => exact xor_int (ki _ (Option.some.inj q))
    | _ => cases q
end
end
section
open PySem PySem.W PyProof.Rows PySem.Spec PySem.Calls
set_option maxRecDepth 100000
set_option maxHeartbeats 1000000
def intsOf : List D → Option (List Int)
  | [] => some []
  | .int i :: r => (intsOf r).map fun l => i :: l
  | _ => none
def strsOf : List D → Option (List Str)
  | [] => some []
  | .str i :: r => (strsOf r).map fun l => i :: l
  | _ => none
theorem ints_of {L : Lg} {vs : List Value} {ds : List D} {ns : List Int} (R : Reps L vs ds) (e : intsOf ds = some ns) : IntsAre vs ns := by
  induction ds generalizing vs ns with
  | nil => cases R; cases e; exact .nil
  | cons d r ih =>
    cases R with
    | cons r1 r2 =>
      cases r1 with
      | int i t =>
        have e' : (intsOf r).map (fun l => i :: l) = some ns := e
        cases q : intsOf r with
        | none => rw [q] at e'; cases e'
        | some l => rw [q] at e'; cases e'; exact .cons i t (ih r2 q)
      | _ => cases e
theorem strs_of {L : Lg} {vs : List Value} {ds : List D} {ns : List Str} (R : Reps L vs ds) (e : strsOf ds = some ns) : StrsAre vs ns := by
  induction ds generalizing vs ns with
  | nil => cases R; cases e; exact .nil
  | cons d r ih =>
    cases R with
    | cons r1 r2 =>
      cases r1 with
      | str i t =>
        have e' : (strsOf r).map (fun l => i :: l) = some ns := e
        cases q : strsOf r with
        | none => rw [q] at e'; cases e'
        | some l => rw [q] at e'; cases e'; exact .cons i t (ih r2 q)
      | _ => cases e
def ins (a : Int) : List Int → List Int
  | [] => [a]
  | b :: r => if a ≤ b then a :: b :: r else b :: ins a r
def isort : List Int → List Int
  | [] => []
  | a :: r => ins a (isort r)
theorem ins_perm (a : Int) (l : List Int) : (ins a l).Perm (a :: l) := by
  induction l with
  | nil => exact .refl _
  | cons b r ih =>
    unfold ins
    split
    · exact .refl _
    · exact (List.Perm.cons b ih).trans (.swap a b r)
theorem isort_perm (l : List Int) : (isort l).Perm l := by
  induction l with
  | nil => exact .refl _
  | cons a r ih => exact (ins_perm a _).trans (ih.cons a)
theorem ins_pw (a : Int) (l : List Int) (h : l.Pairwise (· ≤ ·)) : (ins a l).Pairwise (· ≤ ·) := by
  induction l with
  | nil => exact List.pairwise_singleton _ _
  | cons b r ih =>
    have h' := List.pairwise_cons.mp h
    unfold ins
    split
    · rename_i hab
      refine List.pairwise_cons.mpr ⟨fun x hx => ?_, h⟩
      rcases List.mem_cons.mp hx with rfl | hx
      · exact hab
      · exact Int.le_trans hab (h'.1 x hx)
    · rename_i hab
      refine List.pairwise_cons.mpr ⟨fun x hx => ?_, ih h'.2⟩
      rcases List.mem_cons.mp ((ins_perm a r).mem_iff.mp hx) with rfl | hx
      · omega
      · exact h'.1 x hx
theorem isort_pw (l : List Int) : (isort l).Pairwise (· ≤ ·) := by
  induction l with
  | nil => exact .nil
  | cons a r ih => exact ins_pw a _ ih
theorem isort_eq {l l' : List Int} (hp : l'.Perm l) (hs : l'.Pairwise (· ≤ ·)) : l' = isort l :=
  List.Perm.eq_of_pairwise (fun a b _ _ h1 h2 => Int.le_antisymm h1 h2) hs (isort_pw l) (hp.trans (isort_perm l).symm)
theorem Reps.one {L : Lg} {vs : List Value} {d : D} (R : Reps L vs [d]) : ∃ v, vs = [v] ∧ Rep L v d := by
  cases R with
  | cons r r2 => cases r2; exact ⟨_, rfl, r⟩
theorem Reps.three {L : Lg} {vs : List Value} {d e f : D} (R : Reps L vs [d, e, f]) : ∃ v u x, vs = [v, u, x] ∧ Rep L v d ∧ Rep L u e ∧ Rep L x f := by
  cases R with
  | cons r r2 => obtain ⟨u, x, rfl, r3, r4⟩ := r2.two; exact ⟨_, u, x, rfl, r, r3, r4⟩
theorem Rep.listE {L : Lg} {v : Value} {l : List D} (R : Rep L v (.list l)) : ∃ a us c, v = .ref a ∧ (a, lob us c) ∈ L.led ∧ Reps L us l := by cases R with | list m r => exact ⟨_, _, _, rfl, m, r⟩
theorem Rep.tupE {L : Lg} {v : Value} {l : List D} (R : Rep L v (.tup l)) : ∃ a us c, v = .ref a ∧ (a, tob us c) ∈ L.led ∧ Reps L us l := by cases R with | tup m r => exact ⟨_, _, _, rfl, m, r⟩
def callT (f : Value) (vs : List Value) : Sem Value := call f vs
def lenP : List D → Option D
  | [.list l] => if decide (l.length ≤ 1000000) then some (.int l.length) else none
  | _ => none
def sortedP : List D → Option D
  | [.list l] => match intsOf l with
    | some ns => if decide (ns.length < 64) then some (.list ((isort ns).map .int)) else none
    | none => none
  | _ => none
def sumP : List D → Option D
  | [.list l] => match intsOf l with
    | some ns => some (.int ns.sum)
    | none => none
  | _ => none
def rangeP : List D → Option D
  | [.int k] => some (.range 0 k 1)
  | [.int i, .int j] => some (.range i j 1)
  | [.int i, .int j, .int k] => if k != 0 && b64 k then some (.range i j k) else none
  | _ => none
def joinP : List D → Option D
  | [.str x, .list l] => match strsOf l with
    | some ys => if decide (x.length ≤ 16) && decide ((ys.map (·.length)).sum + ys.length ≤ 1048576) then some (.str (Txt.join x ys)) else none
    | none => none
  | _ => none
section
variable {W : Wd} {n : Nat} {A : Around} {fs : List Addr} {h : Heap} {L : Lg} {s : Shared} {d : D} {Q : Value → Shared → Prop}
theorem out_flat (H : HI W n A fs s.heap L) (k : ∀ v h' tk L', Arr W n A fs s.heap L h' L' → Rep L' v d → Q v { s with heap := h', toks := tk }) (v : Value) (h' : Heap) (tk : Nat) (r : Rep L v d) (hk : ∀ b o, s.heap.get? b = some o → h'.get? b = some o) : Q v { s with heap := h', toks := tk } :=
  k v h' tk L (.of_kp H (.of_keep hk)) r
theorem out_list (H : HI W n A fs s.heap L) (k : ∀ v h' tk L', Arr W n A fs s.heap L h' L' → Rep L' v d → Q v { s with heap := h', toks := tk }) (us : List Value) (es : List D) (a : Addr) (c : Nat) (h' : Heap) (tk : Nat) (q : d = .list es) (hk : ∀ b o, s.heap.get? b = some o → h'.get? b = some o)
    (ha : h'.get? a = some (lob us c)) (hn : s.heap.get? a = none) (r : Reps L us es) : Q (.ref a) { s with heap := h', toks := tk } := by
  have H' := H.kp (.of_keep hk)
  refine k (.ref a) h' tk ⟨(a, lob us c) :: L.led, L.ow⟩ ⟨⟨H'.handled, H'.room, H'.units, H'.stk, H'.base, fun p hp => ?_, H.nb.cons (H.fresh hn)⟩, .of_keep hk, [(a, lob us c)], rfl, fun p hp => ?_⟩ ?_
  · rcases List.mem_cons.mp hp with rfl | hp
    · exact ⟨ha, rfl⟩
    · exact H'.led p hp
  · rw [List.mem_singleton.mp hp]; exact hn
  · rw [q]; exact .list (.head _) (Reps.mono (L' := ⟨(a, lob us c) :: L.led, L.ow⟩) ⟨fun p hp => List.mem_cons_of_mem _ hp, fun _ _ z => z⟩ r)
theorem len_ok (ds : List D) (d : D) (e : lenP ds = some d) : OpN W n (callT (.builtin "len")) ds d := by
  intro A fs L vs Rs s Q H k
  unfold lenP at e
  split at e
  · obtain ⟨v, rfl, R⟩ := Rs.one
    obtain ⟨a, us, c, rfl, m, r⟩ := R.listE
    have hlen := r.length
    split at e
    · rename_i hb
      cases e
      have hb := of_decide_eq_true hb
      refine len_list (isList_lob (H.led _ m).1) (by simp; omega) ?_
      exact out_flat H k _ s.heap (s.toks + 1 + 1) (by rw [show us.toArray.size = us.length by simp, hlen]; exact .int _ _) fun _ _ z => z
    · cases e
  · cases e
theorem sorted_ok (ds : List D) (d : D) (e : sortedP ds = some d) : OpN W n (callT (.builtin "sorted")) ds d := by
  intro A fs L vs Rs s Q H k
  unfold sortedP at e
  split at e
  · obtain ⟨v, rfl, R⟩ := Rs.one
    obtain ⟨a, us, c, rfl, m, r⟩ := R.listE
    split at e
    · rename_i ns q2
      split at e
      · rename_i hb
        cases e
        have hI := ints_of r q2
        have := hI.length
        refine sorted_ints (isList_lob (H.led _ m).1) hI (by have := of_decide_eq_true hb; omega) fun out ns' a1 a2 a3 => ?_
        obtain ⟨c', he⟩ := sortedAll_at s.heap us out
        refine out_list H k out.toList ((isort ns).map D.int) _ c' _ _ rfl (fun b o => sortedAll_old) he (Heap.get?_none_of_le (Nat.le_succ _)) ?_
        rw [← isort_eq a2 a3]
        exact Reps.of_ints a1
      · cases e
    · cases e
  · cases e
theorem sum_ok [hq : Quiet W] (ds : List D) (d : D) (e : sumP ds = some d) : OpN W n (callT (.builtin "sum")) ds d := by
  intro A fs L vs Rs s Q H k
  unfold sumP at e
  split at e
  · obtain ⟨v, rfl, R⟩ := Rs.one
    obtain ⟨a, us, c, rfl, m, r⟩ := R.listE
    split at e
    · rename_i ns q2
      cases e
      have hI := ints_of r q2
      have hl := isList_lob (H.led _ m).1
      obtain ⟨xs, hxs⟩ := hI.allInts.items
      rw [hxs] at hl
      refine sum_intListG (H.handled hq.q) hl fun h' tk t' hk => ?_
      refine out_flat H k _ h' tk ?_ hk
      rw [show preSum (numAt xs) xs.size = ns.sum by rw [preSum_eq, List.take_of_length_le (by simp), ← nums_intItems, ← hxs, hI.numsOf]]
      exact .int _ _
    · cases e
  · cases e
theorem range_ok (ds : List D) (d : D) (e : rangeP ds = some d) : OpN W n (callT (.type "range")) ds d := by
  intro A fs L vs Rs s Q H k
  unfold rangeP at e
  split at e
  · rename_i i
    cases e
    obtain ⟨v, rfl, R⟩ := Rs.one
    obtain ⟨t, rfl⟩ := R.intE
    refine call_range_1 ?_
    exact k _ _ _ _ (Arr.push H (o := rob 0 i 1 s.toks t (s.toks + 1)) rfl rfl) (.range (.head _))
  · rename_i i j
    cases e
    obtain ⟨v, v', rfl, R, R'⟩ := Rs.two
    obtain ⟨t, rfl⟩ := R.intE
    obtain ⟨t', rfl⟩ := R'.intE
    refine call_range_2 ?_
    exact k _ _ _ _ (Arr.push H (o := rob i j 1 t t' s.toks) rfl rfl) (.range (.head _))
  · rename_i i j x
    obtain ⟨v, v', v2, rfl, R, R', R2⟩ := Rs.three
    obtain ⟨t, rfl⟩ := R.intE
    obtain ⟨t', rfl⟩ := R'.intE
    obtain ⟨t2, rfl⟩ := R2.intE
    split at e
    · rename_i hb
      cases e
      rw [Bool.and_eq_true] at hb
      refine call_range_3 (by simpa using hb.1) ?_ (.inl (noPylong hb.2))
      exact k _ _ _ _ (Arr.push H (o := rob i j x t t' t2) rfl rfl) (.range (.head _))
    · cases e
  · cases e
theorem join_ok (ds : List D) (d : D) (e : joinP ds = some d) : OpN W n (callT (.builtin "str.join")) ds d := by
  intro A fs L vs Rs s Q H k
  unfold joinP at e
  split at e
  · rename_i x l
    obtain ⟨v, v', rfl, R, R'⟩ := Rs.two
    obtain ⟨t, rfl⟩ := R.strE
    obtain ⟨a, us, c, rfl, m, r⟩ := R'.listE
    split at e
    · rename_i ys q2
      split at e
      · rename_i hb
        cases e
        rw [Bool.and_eq_true, decide_eq_true_eq, decide_eq_true_eq] at hb
        refine join_listW (isList_lob (H.led _ m).1) (strs_of r q2) hb.1 hb.2 fun t' tk => ?_
        exact out_flat H k _ s.heap tk (Rep.str _ _) fun _ _ z => z
      · cases e
    · cases e
  · cases e
end
end
section
open PySem PySem.W PyProof.Rows PySem.Spec PySem.Calls
set_option maxRecDepth 100000
set_option maxHeartbeats 1000000
/-- what may be called: no object of the heap, or one of the written part that the model keeps -/
def Keepy (W : Wd) (f : Value) : Prop := (∀ a, f ≠ .ref a) ∨ keepIn W.K f = true
section
variable {W : Wd} {n : Nat} {A : Around} {fs : List Addr} {nm : List (Str × NameKind)} {cs : List Str} {env : Env} {h₀ h h' : Heap} {lo : Nat} {S : St} {L L' : Lg} {s : Shared}
theorem HI.inK (H : HI W n A fs h L) : W.K.In h := fun a o e => H.base a o (W.X a o e)
theorem Keepy.looks {f : Value} (k : Keepy W f) (h : Heap) (X : W.K.In h) : ∃ k, (k = Keeper.frame ∨ k = Keeper.machine ∨ k = Keeper.boundFrame) ∧ Looks W.M h (keeperOf f) k := by
  rcases k with k | k
  · refine ⟨.machine, .inr (.inl rfl), Looks.of_pure ?_⟩
    cases f with
    | ref a => exact (k a rfl).elim
    | _ => rfl
  · exact keeps_K k h X
theorem cw_ok {f : Value} {first : List Value} {e : PySem.Expr} {es : List PySem.Expr} {ds : List D} {pos pos' : Pos} {Q : Value → Shared → Prop} (hk : Keepy W f) (x : EvL W n nm cs S (e :: es) ds) (P : Pre W n A fs nm cs env h₀ lo S s.heap L)
    (k : ∀ vs h' tk L', Arr W n A fs s.heap L h' L' → Reps L' vs ds → wpAny W.M A (call f (first ++ vs)) Q NoE { s with heap := h', toks := tk }) : wpAny W.M A (callWith pos f first (backTo pos' (starEach (e :: es) env)) []) Q NoE s := by
  have hp := x.plain (pos := pos') (env := env)
  refine callWith_of (by rw [hp]; rfl) (fun h X => hk.looks h X) ?_
  have hl := ev_list (pos := pos') x P (Q := fun vs s₁ => W.K.In s₁.heap ∧ wpAny W.M A (call f (first ++ vs)) Q NoE s₁) fun vs h' tk L' a r => ⟨a.hi.inK, k vs h' tk L' a r⟩
  cases x with
  | cons _ hs _ =>
    rw [hs env] at hl ⊢
    exact evalArgs_plain hl
theorem ev_call {x : Str} {p pos : Pos} {f : Value} {e : PySem.Expr} {es : List PySem.Expr} {ds : List D} {d : D} {g : List D → Option D} (hf : EvU W n nm cs S (.Name x p) fun _ u => u = f) (hk : Keepy W f) (hx : EvL W n nm cs S (e :: es) ds)
    (hg : ∀ ds d, g ds = some d → OpN W n (callT f) ds d) (hd : apP S g ds = some d) : EvD W n nm cs S (.Call (.Name x p) (e :: es) [] pos) d := by
  intro A fs env h₀ lo s L Q P k
  refine Call_Name rfl (ev_bind hf P fun v h1 t1 L1 P1 a1 r1 => ?_)
  subst r1
  refine cw_ok hk hx P1 fun vs h2 t2 L2 a2 R2 => ?_
  exact ap_ok hg (P1.arr a2) R2 hd fun v h3 t3 L3 a3 R3 => k v h3 t3 L3 ((a1.trans a2).trans a3) R3
/-- ''.join(x) -/
theorem ev_join {y : Str} {j : Nat} {p apos pos : Pos} {e : PySem.Expr} {d₁ d : D} (x : EvD W n nm cs S e d₁) (hs : ∀ env, starEach [e] env = [(false, eval e env)]) (hline : (apos.endLine == pos.line) = true) (hd : apP S joinP [.str y, d₁] = some d) :
    EvD W n nm cs S (.Call (.Attribute (.Constant (.str y) j p) "join" apos) [e] [] pos) d := by
  intro A fs env h₀ lo s L Q P k
  refine Call_method1 rfl (hs env) hline (ev_bind ev_str P fun v h1 t1 L1 P1 a1 R1 => ?_)
  obtain ⟨t, rfl⟩ := R1.strE
  refine ⟨"str", "str.join", F.plainAttrs_str, F.slot_str_join, F.type_str_join, typeIs_str _ _ _, (fun _ e => nomatch e), ?_⟩
  have := cw_ok (s := { s with heap := h1, toks := t1 }) (f := .builtin "str.join") (first := [.str y t]) (pos := pos) (pos' := pos) (Q := Q) (.inl fun a e => nomatch e) (EvL.cons x (fun env => (hs env).trans rfl) .nil) P1 fun vs h2 t2 L2 a2 R2 => by
    obtain ⟨u, rfl, R3⟩ := R2.one
    exact ap_ok (t := callT (.builtin "str.join")) (vs := [.str y t, u]) join_ok (P1.arr a2) (.cons (Rep.str y t) (.cons R3 .nil)) hd fun v h3 t3 L3 a3 R3 => k v h3 t3 L3 ((a1.trans a2).trans a3) R3
  rw [hs env] at this
  exact this

def itemD (x : D) (i : Int) : Option D :=
  match x with
  | .list ds => if decide (-(2 ^ 63) ≤ i) && decide (i < 2 ^ 63) then (seqIndex? i ds.length).bind (ds[·]?) else none
  | .tup ds => if decide (-(2 ^ 63) ≤ i) && decide (i < 2 ^ 63) then (seqIndex? i ds.length).bind (ds[·]?) else none
  | .str x => if decide (-(2 ^ 63) ≤ i) && decide (i < 2 ^ 63) then ((seqIndex? i x.length).bind (x.cps[·]?)).map fun c => .str ⟨#[c]⟩ else none
  | _ => none
def itemP : List D → Option D
  | [x, .int i] => itemD x i
  | _ => none
theorem itemP_inv {ds : List D} {d : D} (e : itemP ds = some d) : ∃ x i, ds = [x, .int i] ∧ itemD x i = some d := by
  cases ds with
  | nil => exact no_some e
  | cons x r => cases r with
    | nil => exact no_some e
    | cons y r => cases y with
      | int i => cases r with
        | nil => exact ⟨x, i, rfl, e⟩
        | cons _ _ => exact no_some e
      | _ => exact no_some e
def itemT (value slice : PySem.Expr) : List Value → Sem Value
  | [o, i] => subscriptTail value slice o i
  | _ => pure .none
theorem tail_ok {value slice : PySem.Expr} {o i : Value} {T id : String} {ops : List Value} {Q : Value → Shared → Prop} (hT : s.TypeIs o T)
    (hl : typeLookup (.type T) "__getitem__" = pure (some (.builtin id))) (hs : subscripted slice false o i = operate ops (getItem o i)) (h : wpAny W.M A (getItem o i) Q NoE s) :
    wpAny W.M A (subscriptTail value slice o i) Q NoE s := by
  unfold subscriptTail
  refine wpAny_bind ?_
  rw [getitemInPython_of_ne hT.not_modules]
  refine wpAny_bind (wpAny_specialOf hT hl ?_)
  have fin : wpAny W.M A (subscripted slice false o i) (fun r s₃ => wpAny W.M A (letTemporaryGo value o r >>= fun _ => pure r) Q NoE s₃) NoE s := by
    rw [hs]
    exact wpAny_operating (wpAny_mono h (fun r s₃ h₃ => wpAny_bind (wpAny_letTemporaryGo (wpAny_pure h₃))) fun _ _ x => x)
  first
    | exact wpAny_pure (wpAny_bind fin)
    | exact wpAny_bind (wpAny_pure (wpAny_bind fin))
    | exact wpAny_bind fin
def isSlice : PySem.Expr → Bool
  | .Slice .. => true
  | _ => false
theorem subscripted_plain {slice : PySem.Expr} {o i : Value} (h : isSlice slice = false) : subscripted slice false o i = operate [o, i] (getItem o i) := by
  cases slice <;> first | rfl | cases h
theorem seqIndex_get {α : Type} {i : Int} {l : List α} {j : Nat} (h : seqIndex? i l.length = some j) : (0 ≤ i ∧ i.toNat = j ∧ j < l.length) ∨ (i < 0 ∧ -(l.length : Int) ≤ i ∧ (i + l.length).toNat = j ∧ j < l.length) := by
  unfold seqIndex? at h
  dsimp only at h
  split at h <;> split at h
  · rename_i h1 h2
    simp only [Bool.and_eq_true, decide_eq_true_eq] at h2
    cases h
    exact .inr ⟨h1, by omega, rfl, by omega⟩
  · cases h
  · rename_i h1 h2
    simp only [Bool.and_eq_true, decide_eq_true_eq] at h2
    cases h
    exact .inl ⟨by omega, rfl, by omega⟩
  · cases h
theorem item_ok {value slice : PySem.Expr} (hsl : isSlice slice = false) (ds : List D) (d : D) (e : itemP ds = some d) : OpN W n (itemT value slice) ds d := by
  intro A fs L vs Rs s Q H k
  obtain ⟨x, i, rfl, e⟩ := itemP_inv e
  obtain ⟨v, v', rfl, R, R'⟩ := Rs.two
  obtain ⟨t, rfl⟩ := R'.intE
  have here : ∀ v, Rep L v d → Q v s := fun v r => k v s.heap s.toks L (.refl H) r
  cases x with
  | list l =>
    obtain ⟨a, us, c, rfl, m, r⟩ := R.listE
    by_cases hb : (decide (-(2 ^ 63) ≤ i) && decide (i < 2 ^ 63)) = true
    · replace e := (if_pos hb).symm.trans e
      rw [Bool.and_eq_true, decide_eq_true_eq, decide_eq_true_eq] at hb
      cases q : seqIndex? i l.length with
      | none => rw [q] at e; exact no_some e
      | some j =>
        rw [q] at e
        have e : l[j]? = some d := e
        obtain ⟨u, hu, hr⟩ := r.get e
        have hlen := r.length
        have hl := isList_lob (H.led _ m).1
        refine tail_ok hl.typeIs slot_list_getitem.lookup (subscripted_plain hsl) ?_
        rcases seqIndex_get q with ⟨h1, h2, h3⟩ | ⟨h1, h2, h3, h4⟩
        · exact wpAny_getItem_list hl h1 hb.2 (x := u) (by rw [h2]; simpa using hu) (here u hr)
        · exact wpAny_getItem_list_neg hl h1 (by simp; omega) hb.1 (x := u) (by rw [show us.toArray.size = l.length by simp [hlen], h3]; simpa using hu) (here u hr)
    · exact no_some ((if_neg hb).symm.trans e)
  | tup l =>
    obtain ⟨a, us, c, rfl, m, r⟩ := R.tupE
    by_cases hb : (decide (-(2 ^ 63) ≤ i) && decide (i < 2 ^ 63)) = true
    · replace e := (if_pos hb).symm.trans e
      rw [Bool.and_eq_true, decide_eq_true_eq, decide_eq_true_eq] at hb
      cases q : seqIndex? i l.length with
      | none => rw [q] at e; exact no_some e
      | some j =>
        rw [q] at e
        have e : l[j]? = some d := e
        obtain ⟨u, hu, hr⟩ := r.get e
        have hlen := r.length
        refine tail_ok (isTuple_tob (H.led _ m).1).typeIs PySem.F.slot_tuple_getitem.lookup (subscripted_plain hsl) ?_
        exact P.getItem_tuple (H.led _ m).1 hb.1 hb.2 (k := j) (by rw [show us.toArray.size = l.length by simp [hlen]]; exact q) (by simpa using hu) (here u hr)
    · exact no_some ((if_neg hb).symm.trans e)
  | str x =>
    obtain ⟨t', rfl⟩ := R.strE
    by_cases hb : (decide (-(2 ^ 63) ≤ i) && decide (i < 2 ^ 63)) = true
    · replace e := (if_pos hb).symm.trans e
      rw [Bool.and_eq_true, decide_eq_true_eq, decide_eq_true_eq] at hb
      cases q : (seqIndex? i x.length).bind (x.cps[·]?) with
      | none => rw [q] at e; exact no_some e
      | some c =>
        rw [q] at e
        cases e
        refine tail_ok (typeIs_str _ _ _) PySem.F.slot_str_getitem.lookup (subscripted_plain hsl) ?_
        exact P.getItem_str (by simp only [Bool.or_eq_false_iff, decide_eq_false_iff_not]; omega) q (k _ s.heap (s.toks + 1) L (.refl H) (Rep.str _ _))
    · exact no_some ((if_neg hb).symm.trans e)
  | _ => exact no_some e
theorem ev_item {value slice : PySem.Expr} {pos : Pos} {d₁ d₂ d : D} (x : EvD W n nm cs S value d₁) (y : EvD W n nm cs S slice d₂) (hsl : isSlice slice = false) (e : apP S itemP [d₁, d₂] = some d ∨ itemP [d₁, d₂] = some d) : EvD W n nm cs S (.Subscript value slice pos) d := by
  intro A fs env h₀ lo s L Q P k
  refine Subscript_ ?_
  rcases e with e | e
  · exact ev_two (t := itemT value slice) x y (item_ok hsl) e P k
  · refine ev_bind x P fun v₁ h1 t1 L1 P1 a1 R1 => ?_
    refine ev_bind y P1 fun v₂ h2 t2 L2 P2 a2 R2 => ?_
    exact item_ok (value := value) hsl _ _ e _ _ L2 [v₁, v₂] (.cons (R1.mono a2.le) (.cons R2 .nil)) _ _ P2.hi fun v h3 t3 L3 a3 R3 => k v h3 t3 L3 ((a1.trans a2).trans a3) R3

/-- a part of a slice -/
def EvP (W : Wd) (n : Nat) (nm : List (Str × NameKind)) (cs : List Str) (S : St) : Option PySem.Expr → Option Int → Prop
  | none, none => True
  | some e, some i => EvD W n nm cs S e (.int i)
  | _, _ => False
theorem ev_part {o : Option PySem.Expr} {i : Option Int} {Q : Value → Shared → Prop} (x : EvP W n nm cs S o i) (P : Pre W n A fs nm cs env h₀ lo S s.heap L) (k : ∀ v h' tk L', Arr W n A fs s.heap L h' L' → IsPart v i → Q v { s with heap := h', toks := tk }) :
    wpAny W.M A (evalPart o env) Q NoE s := by
  cases o with
  | none =>
    cases i with
    | none => exact wpAny_pure (k .none s.heap s.toks L (.refl P.hi) .none)
    | some i => cases x
  | some e =>
    cases i with
    | none => cases x
    | some i =>
      have x : EvD W n nm cs S e (.int i) := x
      refine ev_bind x P fun v h' tk L' _ a R => ?_
      obtain ⟨t, rfl⟩ := R.intE
      exact k _ h' tk L' a (.int i t)
def slG {α : Type} (l : List α) (lo hi : Option Int) : List α := (sliceRange (sliceBounds lo hi none l.length).1 (sliceBounds lo hi none l.length).2.1 (sliceBounds lo hi none l.length).2.2).filterMap (l[·]?)
theorem Reps.pick {vs : List Value} {ds : List D} (R : Reps L vs ds) (is : List Nat) : Reps L (is.filterMap (vs[·]?)) (is.filterMap (ds[·]?)) := by
  induction is with
  | nil => exact .nil
  | cons i r ih =>
    have hlen := R.length
    rw [List.filterMap_cons, List.filterMap_cons]
    by_cases hi : i < ds.length
    · obtain ⟨v, e1, e2⟩ := R.get (List.getElem?_eq_getElem hi)
      rw [e1, List.getElem?_eq_getElem hi]
      exact .cons e2 ih
    · rw [List.getElem?_eq_none (by omega), List.getElem?_eq_none (by omega)]
      exact ih
theorem Reps.slG {vs : List Value} {ds : List D} (R : Reps L vs ds) (lo hi : Option Int) : Reps L (slicePick vs.toArray lo hi none).toList (Mine.slG ds lo hi) := by
  unfold slicePick Mine.slG
  rw [List.size_toArray, R.length]
  have := R.pick (sliceRange (sliceBounds lo hi none ds.length).1 (sliceBounds lo hi none ds.length).2.1 (sliceBounds lo hi none ds.length).2.2)
  simpa using this
theorem ev_slice {value : PySem.Expr} {l u : Option PySem.Expr} {p pos : Pos} {ds : List D} {i j : Option Int} (x : EvD W n nm cs S value (.list ds)) (y : EvP W n nm cs S l i) (z : EvP W n nm cs S u j) (hz : ds.length ≤ 1000) : EvD W n nm cs S (.Subscript value (.Slice l u none p) pos) (.list (slG ds i j)) := by
  intro A fs env h₀ lo s L Q P k
  refine Subscript_ (ev_bind x P fun v h1 t1 L1 P1 a1 R1 => ?_)
  obtain ⟨a, us, c, rfl, m, r⟩ := R1.listE
  refine wpAny_Slice (ev_part y P1 fun v2 h2 t2 L2 a2 p2 => ev_part z (P1.arr a2) fun v3 h3 t3 L3 a3 p3 => ?_)
  show wpAny W.M A (pure Value.none) _ NoE _
  refine wpAny_pure ?_
  have m3 := (a2.trans a3).le.led _ m
  have e3 := (a3.hi.led _ m3).1
  have hl : h3.IsList a us.toArray := isList_lob e3
  have hlen := r.length
  have a4 := Arr.push a3.hi (o := { cls := .type "slice", data := .fields #[v2, v3, .none] }) rfl rfl
  refine tail_ok (ops := [.ref h3.objs.size, .ref a]) (Heap.IsList.typeIs (s := { s with heap := h3.push { cls := .type "slice", data := .fields #[v2, v3, .none] }, toks := t3 }) (hl.push _)) slot_list_getitem.lookup rfl ?_
  refine wpAny_getItem_list_slice (hl.push _) (Heap.IsSliceOf.new ..) p2 p3 .none (by simp) ?_ (by rw [List.size_toArray, hlen, sizeLine_eq]; omega)
  have a5 := Arr.push a4.hi (o := { cls := .type "list", data := .seq (slicePick us.toArray i j none) }) rfl rfl
  have at' := ((a1.trans (a2.trans a3)).trans a4).trans a5
  refine k _ _ t3 _ at' (.list (vs := (slicePick us.toArray i j none).toList) (n := 0) (by simpa using List.Mem.head _) ?_)
  exact (r.mono ((((a2.trans a3).trans a4).trans a5).le)).slG i j
def trP : D → Option Bool
  | .bool b => some b
  | .int i => some (i != 0)
  | .list l => if decide (l.length ≤ 1000000) then some (!l.isEmpty) else none
  | .none => some false
  | _ => none
theorem tr_ok {d d' : D} {b : Bool} {v : Value} {Q : Bool → Shared → Prop} (R : Rep L v d) (P : Pre W n A fs nm cs env h₀ lo S s.heap L) (hs : S.see d = some d') (e : trP d' = some b) (k : ∀ tk, Q b { s with toks := tk }) : wpAny W.M A (truthy v) Q NoE s := by
  obtain ⟨L₁, hle, H₁, hsee, _⟩ := freeze P
  have R := hsee v d d' R hs
  unfold trP at e
  split at e
  · cases e; rw [R.boolE]; exact wpAny_truthy_bool (k s.toks)
  · cases e; obtain ⟨t, rfl⟩ := R.intE; exact PySem.P.truthy_int (k s.toks)
  · rename_i l
    obtain ⟨a, us, c, rfl, m, r⟩ := R.listE
    have hlen := r.length
    split at e
    · rename_i hb
      cases e
      have hb := of_decide_eq_true hb
      refine wpAny_truthy_list (isList_lob (H₁.led _ m).1) (by simp; omega) ?_
      have : us.toArray.isEmpty = l.isEmpty := by
        cases l with
        | nil => cases us with
          | nil => rfl
          | cons _ _ => cases hlen
        | cons _ _ => cases us with
          | nil => cases hlen
          | cons _ _ => rfl
      rw [this]
      exact k _
    · cases e
  · cases e; cases R; exact truthy_none (k s.toks)
  · cases e
end
end
section
open PySem PySem.W PyProof.Rows PySem.Spec PySem.Calls
set_option maxRecDepth 100000
set_option maxHeartbeats 1000000
inductive Flo where
  | next | brk | cont
  | ret (d : D)
inductive FloIs (L : Lg) : Flow → Flo → Prop
  | next : FloIs L .next .next
  | brk : FloIs L .brk .brk
  | cont : FloIs L .cont .cont
  | ret {v : Value} {d : D} : Rep L v d → FloIs L (.ret v) (.ret d)
/-- statements of a def's body -/
def Ex (W : Wd) (n : Nat) (nm : List (Str × NameKind)) (cs : List Str) (S : St) (t : Env → Sem Flow) (F : Flo) (S' : St) : Prop :=
  ∀ (A : Around) (fs : List Addr) (env : Env) (h₀ : Heap) (s : Shared) (L : Lg) (Q : Flow → Shared → Prop), Pre W n A fs nm cs env h₀ 0 S s.heap L →
    (∀ f h' tk L', FloIs L' f F → Pre W n A fs nm cs env h₀ 0 S' h' L' → ArrS s.heap L h' L' → Q f { s with heap := h', toks := tk }) → wpAny W.M A (t env) Q NoE s
section
variable {W : Wd} {n : Nat} {A : Around} {fs : List Addr} {nm : List (Str × NameKind)} {cs : List Str} {env : Env} {h₀ h h' : Heap} {lo : Nat} {S S' S₁ S₂ : St} {L L' : Lg} {s : Shared} {F : Flo}
theorem anyE {α : Type} {t : Sem α} {Q : α → Shared → Prop} {E : Value → Shared → Prop} (h : wpAny W.M A t Q NoE s) : wpAny W.M A t Q E s := wpAny_mono h (fun _ _ x => x) fun _ _ f => f.elim
theorem ex_nil : Ex W n nm cs S (execs []) .next S := fun A fs env h₀ s L Q P k => wpAny_execs_nil (k .next s.heap s.toks L .next P (.refl _ _))
theorem ex_cons {st : PySem.Stmt} {rest : List PySem.Stmt} (x : Ex W n nm cs S (exec st) .next S₁) (y : Ex W n nm cs S₁ (execs rest) F S') : Ex W n nm cs S (execs (st :: rest)) F S' := by
  intro A fs env h₀ s L Q P k
  refine wpAny_execs_cons (x A fs env h₀ s L _ P fun f h1 t1 L1 f1 P1 a1 => ?_)
  cases f1
  exact y A fs env h₀ _ L1 _ P1 fun f h2 t2 L2 f2 P2 a2 => k f h2 t2 L2 f2 P2 (a1.trans a2)
theorem ex_stop {st : PySem.Stmt} {rest : List PySem.Stmt} (hF : F ≠ .next) (x : Ex W n nm cs S (exec st) F S') : Ex W n nm cs S (execs (st :: rest)) F S' := by
  intro A fs env h₀ s L Q P k
  refine wpAny_execs_cons (x A fs env h₀ s L _ P fun f h1 t1 L1 f1 P1 a1 => ?_)
  cases f1 with
  | next => exact (hF rfl).elim
  | brk => exact k .brk h1 t1 L1 .brk P1 a1
  | cont => exact k .cont h1 t1 L1 .cont P1 a1
  | ret r => exact k (.ret _) h1 t1 L1 (.ret r) P1 a1
def isComp : PySem.Expr → Bool
  | .ListComp .. | .SetComp .. | .DictComp .. => true
  | _ => false
theorem swaps_no {value t : PySem.Expr} {line : Nat} {env : Env} (h : isComp value = false) : swapsWith value (some t) line env = pure false := by
  cases value <;> first | rfl | cases h
theorem ex_assign {x : Str} {p pos : Pos} {value : PySem.Expr} {d : D} (hx : storable nm cs x = true) (hc : isComp value = false) (v : EvD W n nm cs S value d) : Ex W n nm cs S (exec (.Assign [.Name x p] value pos)) .next (S.set x d) := by
  intro A fs env h₀ s L Q P k
  refine wpAny_Assign_Name (ev_bind v P fun v h1 t1 L1 P1 a1 R1 => ?_) (swaps_no hc)
  exact store P1 R1 (storable_ok hx) fun h2 t2 P2 k2 => k .next h2 t2 L1 .next P2 ((a1.toS P.hi).trans ⟨k2.toS, .refl⟩)
def isTup : PySem.Expr → Bool
  | .Tuple .. => true
  | _ => false
theorem ex_unpack [Quiet W] {ts : List PySem.Expr} {j : Nat} {p pos : Pos} {value : PySem.Expr} {d : D} (v : EvD W n nm cs S value d) (hv : isTup value = false) (hb : bindT nm cs (.Tuple ts j p) d S = some S') : Ex W n nm cs S (exec (.Assign [.Tuple ts j p] value pos)) .next S' := by
  intro A fs env h₀ s L Q P k
  refine wpAny_Assign_stores (ev_bind v P fun v h1 t1 L1 P1 a1 R1 => ?_) ?_ ?_
  · show wpAny W.M A (assignAll v [assign (.Tuple ts j p) env]) _ NoE _
    have := assign_ok (s := { s with heap := h1, toks := t1 }) P1 R1 hb (Q := fun _ => Q .next) fun h2 t2 P2 k2 => k .next h2 t2 L1 .next P2 ((a1.toS P.hi).trans ⟨k2.toS, .refl⟩)
    first
      | exact this
      | exact wpAny_bind (wpAny_holding this)
      | exact wpAny_bind (wpAny_mono (wpAny_holding this) (fun _ _ x => wpAny_pure x) fun _ _ x => x)
  · show swapsWith value (some (.Tuple ts j p)) pos.line env = pure false
    cases value <;> rfl
  · cases value <;> first | rfl | cases hv
theorem ex_if {test : PySem.Expr} {body orelse : List PySem.Stmt} {pos : Pos} {b : Bool} (t : TsU W n nm cs S test b) (y : b = true → Ex W n nm cs S (execs body) F S') (z : b = false → Ex W n nm cs S (execs orelse) F S') : Ex W n nm cs S (exec (.If test body orelse pos)) F S' := by
  intro A fs env h₀ s L Q P k
  refine wpAny_If (t A fs env h₀ 0 s L _ P fun h1 t1 L1 a1 => ?_)
  cases b with
  | true => exact y rfl A fs env h₀ _ L1 _ (P.arr a1) fun f h2 t2 L2 f2 P2 a2 => k f h2 t2 L2 f2 P2 ((a1.toS P.hi).trans a2)
  | false => exact z rfl A fs env h₀ _ L1 _ (P.arr a1) fun f h2 t2 L2 f2 P2 a2 => k f h2 t2 L2 f2 P2 ((a1.toS P.hi).trans a2)
theorem ex_return {e : PySem.Expr} {pos : Pos} {d : D} (v : EvD W n nm cs S e d) : Ex W n nm cs S (exec (.Return (some e) pos)) (.ret d) S := by
  intro A fs env h₀ s L Q P k
  exact wpAny_Return_some (ev_bind v P fun v h1 t1 L1 P1 a1 R1 => k _ h1 t1 L1 (.ret R1) P1 (a1.toS P.hi))
theorem ex_break {pos : Pos} : Ex W n nm cs S (exec (.Break pos)) .brk S := fun A fs env h₀ s L Q P k => wpAny_Break (k .brk s.heap s.toks L .brk P (.refl _ _))

/-- a new own list -/
theorem Pre.newOwn {ob : Obj} {o : Own} (P : Pre W n A fs nm cs env h₀ lo S h L) (ho : OwnO L ob o) (hf : ob.isFreed = false) : Pre W n A fs nm cs env h₀ lo ⟨S.vars, S.own ++ [o]⟩ (h.push ob) ⟨L.led, L.ow ++ [h.objs.size]⟩ := by
  have hle : L.le ⟨L.led, L.ow ++ [h.objs.size]⟩ := ⟨fun _ q => q, fun k a e => by
    rw [List.getElem?_append_left (List.getElem?_eq_some_iff.mp e).1]; exact e⟩
  have a := Arr.of_kp P.hi (.push fs h ob)
  have P' := P.arr a
  have hn : h.get? h.objs.size = none := Heap.get?_none_of_le (Nat.le_refl _)
  have hno : h.objs.size ∉ L.ow := fun q => by obtain ⟨vs, c, e⟩ := own_off P q; rw [hn] at e; cases e
  refine ⟨⟨P'.hi.handled, P'.hi.room, P'.hi.units, P'.hi.stk, P'.hi.base, P'.hi.led, ⟨P.hi.nb.1, fun a ha => (List.mem_append.mp ha).elim (P.hi.nb.2 a) fun q => by rw [List.mem_singleton.mp q]; exact P.hi.fresh hn⟩⟩, P.names, P.envk, P.envg, P.envb, P'.keep, P'.loc, P.locn, fun q => ?_, P.bsz, P'.cst, P.cinj, fun p hp => ?_, ?_⟩
  · rcases List.mem_append.mp q with q | q
    · exact P.loco q
    · obtain ⟨m, o', es, ep, e, _⟩ := P.loc
      rw [List.mem_singleton.mp q, hn] at e
      cases e
  · obtain ⟨v, V, R⟩ := P'.vars p hp
    exact ⟨v, V, R.mono hle⟩
  · refine ⟨?_, ?_, fun k a e hk => ?_, fun a ha => ?_, fun k a w e1 e2 => ?_⟩
    · show (L.ow ++ [_]).length = (S.own ++ [_]).length
      rw [List.length_append, List.length_append, P.owns.len]; rfl
    · exact List.nodup_append.mpr ⟨P.owns.nodup, by simp, fun x hx y hy q => hno (by rw [List.mem_singleton.mp hy] at q; exact q ▸ hx)⟩
    · have e : (L.ow ++ [h.objs.size])[k]? = some a := e
      by_cases hk' : k < L.ow.length
      · rw [List.getElem?_append_left hk'] at e; exact P.owns.fresh k a e hk
      · rw [List.getElem?_append_right (by omega)] at e
        have := List.mem_of_getElem? e
        rw [List.mem_singleton.mp this]
        exact P.keep.none hn
    · rcases List.mem_append.mp ha with ha | ha
      · exact P.owns.offs a ha
      · rw [List.mem_singleton.mp ha]
        exact ⟨fun q => (by obtain ⟨_, o', es, ep, e, _⟩ := P.hi.stk.dict q; rw [hn] at e; cases e), fun p hp q => (by have := (P.hi.led p hp).1; rw [q, hn] at this; cases this)⟩
    · have e1 : (L.ow ++ [h.objs.size])[k]? = some a := e1
      have e2 : (S.own ++ [o])[k]? = some w := e2
      by_cases hk' : k < L.ow.length
      · rw [List.getElem?_append_left hk'] at e1
        rw [List.getElem?_append_left (by rw [← P.owns.len]; exact hk')] at e2
        obtain ⟨ob', e3, e4⟩ := P.owns.each k a w e1 e2
        exact ⟨ob', Heap.get?_push_of_some _ e3, e4.mono hle⟩
      · rw [List.getElem?_append_right (by omega)] at e1
        rw [List.getElem?_append_right (by rw [← P.owns.len]; omega), ← P.owns.len] at e2
        have q1 := List.mem_singleton.mp (List.mem_of_getElem? e1)
        have q2 := List.mem_singleton.mp (List.mem_of_getElem? e2)
        rw [q1, q2]
        exact ⟨ob, Heap.get?_push_size _ hf, ho.mono hle⟩
theorem moreS_own {a : Addr} : MoreS h L ⟨L.led, L.ow ++ [a]⟩ := ⟨[], [a], rfl, fun _ hp => nomatch hp⟩
def St.newOwn (S : St) (x : Str) (o : Own) : St := St.set ⟨S.vars, S.own ++ [o]⟩ x (.own S.own.length)
theorem ex_own {x : Str} {p pos lpos : Pos} {es : List PySem.Expr} {ds : List D} (hx : storable nm cs x = true) (v : EvL W n nm cs S es ds) (hz : ds.length ≤ 1000) : Ex W n nm cs S (exec (.Assign [.Name x p] (.List es lpos) pos)) .next (S.newOwn x (.list ds)) := by
  intro A fs env h₀ s L Q P k
  refine wpAny_Assign_Name (List_ (ev_list v P fun vs h1 t1 L1 a1 R1 => ?_)) rfl
  have P1 := P.arr a1
  refine wpAny_newObj_type ?_ (by show vs.toArray.size ≤ sizeLine; rw [List.size_toArray, R1.length, sizeLine_eq]; omega)
  have P2 := P1.newOwn (ob := { cls := .type "list", data := .seq vs.toArray }) (o := .list ds) ⟨vs, 0, rfl, R1⟩ rfl
  have hk : (L1.ow ++ [h1.objs.size])[S.own.length]? = some h1.objs.size := by rw [← P1.owns.len, List.getElem?_append_right (Nat.le_refl _)]; simp
  refine store P2 (v := .ref h1.objs.size) (d := .own S.own.length) (.own hk) (storable_ok hx) fun h3 t3 P3 k3 => ?_
  exact k .next h3 t3 _ .next P3 ((a1.toS P.hi).trans ⟨((KpA.push _ _).trans k3).toS, moreS_own⟩)
theorem Pre.setOwn {k : Nat} {a : Addr} {ob : Obj} {o : Own} (P : Pre W n A fs nm cs env h₀ lo S h L) (ha : L.ow[k]? = some a) (hk : lo ≤ k) (hs : Heap.SameBut a h h') (hob : h'.get? a = some ob) (ho : OwnO L ob o) : Pre W n A fs nm cs env h₀ lo ⟨S.vars, S.own.set k o⟩ h' L := by
  have hm := List.mem_of_getElem? ha
  obtain ⟨vs, c, e⟩ := own_off P hm
  have hfr := P.owns.fresh k a ha hk
  have hl : env.locals ≠ a := fun q => P.loco (q ▸ hm)
  refine ⟨P.hi.write (P.owns.offs a hm).2 (P.bsz _ hfr) hs (fun q => ((P.owns.offs a hm).1 q).elim), P.names, P.envk, P.envg, P.envb, P.keep.write hfr hs, P.loc.imp fun _ q => q.sameBut hs hl, P.locn, P.loco, P.bsz, fun x hx => ?_, P.cinj, fun p hp => ?_, ?_⟩
  · obtain ⟨c', o', v, h1, h2, h3, h4⟩ := P.cst x hx
    exact ⟨c', o', v, h1, h2, (hs.2 c' fun q => by rw [q, e] at h3; cases h3; cases h4).trans h3, h4⟩
  · obtain ⟨v, V, R⟩ := P.vars p hp
    exact ⟨v, V.sameO e (fun _ _ _ => trivial) hl (fun w q => by cases q) hs, R⟩
  · refine ⟨by rw [List.length_set]; exact P.owns.len, P.owns.nodup, P.owns.fresh, P.owns.offs, fun j b w e1 e2 => ?_⟩
    by_cases hj : j = k
    · subst hj
      have hlt : j < S.own.length := by rw [← P.owns.len]; exact (List.getElem?_eq_some_iff.mp ha).1
      rw [List.getElem?_set_self hlt] at e2
      rw [ha] at e1
      cases e1
      cases e2
      exact ⟨ob, hob, ho⟩
    · rw [List.getElem?_set_ne (Ne.symm hj)] at e2
      obtain ⟨ob', e3, e4⟩ := P.owns.each j b w e1 e2
      refine ⟨ob', (hs.2 b fun q => hj ?_).trans e3, e4⟩
      subst q
      exact (List.getElem?_inj (List.getElem?_eq_some_iff.mp e1).1 P.owns.nodup).mp (e1.trans ha.symm)
theorem append_ok {k : Nat} {ds : List D} {a : Addr} {v : Value} {d : D} {Q : Value → Shared → Prop} (P : Pre W n A fs nm cs env h₀ lo S s.heap L) (hk : lo ≤ k) (hds : S.own[k]? = some (.list ds)) (ha : L.ow[k]? = some a) (R : Rep L v d) (hz : ds.length ≤ 1000000)
    (q : ∀ h', Pre W n A fs nm cs env h₀ lo ⟨S.vars, S.own.set k (.list (ds ++ [d]))⟩ h' L → KpS s.heap h' → Q .none { s with heap := h' }) : wpAny W.M A (call (.builtin "list.append") [.ref a, v]) Q NoE s := by
  obtain ⟨vs, c, e, r⟩ := own_at P hds ha
  refine append_at e (fun h' hs ho => ?_) (by rw [List.size_toArray, r.length, sizeLine_eq]; omega)
  refine q h' (P.setOwn ha hk hs ho ⟨vs ++ [v], c + 1, by simp [lob], r.append (.cons R .nil)⟩) (.of_but hs e (fun _ q => by cases q) ho)
theorem ex_append {x : Str} {p apos cpos pos : Pos} {e : PySem.Expr} {k : Nat} {ds : List D} {d : D} (hx : EvD W n nm cs S (.Name x p) (.own k)) (hds : S.own[k]? = some (.list ds)) (v : EvD W n nm cs S e d) (hs : ∀ env, starEach [e] env = [(false, eval e env)]) (hline : (apos.endLine == cpos.line) = true) (hz : ds.length ≤ 1000000) :
    Ex W n nm cs S (exec (.Expr (.Call (.Attribute (.Name x p) "append" apos) [e] [] cpos) pos)) .next ⟨S.vars, S.own.set k (.list (ds ++ [d]))⟩ := by
  intro A fs env h₀ s L Q P q
  refine wpAny_Expr (Call_method1 rfl (hs env) hline (ev_bind hx P fun u h1 t1 L1 P1 a1 R1 => ?_)) (by unfold interactive; rw [P.envk]; rfl) rfl
  cases R1 with
  | @own _ a ha =>
    obtain ⟨vs, c, e1⟩ := own_off P1 (List.mem_of_getElem? ha)
    refine ⟨"list", "list.append", F.plainAttrs_list, F.slot_list_append, F.type_list_append, ⟨_, e1, rfl⟩, (fun b eb => by cases eb; exact ⟨_, e1, rfl⟩), ?_⟩
    have := cw_ok (s := { s with heap := h1, toks := t1 }) (f := .builtin "list.append") (first := [.ref a]) (pos := cpos) (pos' := cpos) (Q := fun v s' => match v with | .ref _ => False | _ => Q .next s') (.inl fun a e => nomatch e) (EvL.cons v (fun env => (hs env).trans rfl) .nil) P1 fun us h2 t2 L2 a2 R2 => by
      obtain ⟨u, rfl, R3⟩ := R2.one
      exact append_ok (s := { s with heap := h2, toks := t2 }) (P1.arr a2) (Nat.zero_le _) hds (a2.le.ow _ _ ha) R3 hz fun h3 P3 k3 => q .next h3 t2 L2 .next P3 (((a1.toS P.hi).trans (a2.toS P1.hi)).trans ⟨k3, .refl⟩)
    rw [hs env] at this
    exact this
end
end
section
open PySem PySem.W PyProof.Rows PySem.Spec PySem.Calls
set_option maxRecDepth 100000
set_option maxHeartbeats 1000000
/-- what a turn's end leads to -/
def Aft (R : St → Flo → St → Prop) : Flo → St → Flo → St → Prop
  | .next, S2, F, S' => R S2 F S'
  | .cont, S2, F, S' => R S2 F S'
  | .brk, S2, F, S' => F = .next ∧ S' = S2
  | .ret d, S2, F, S' => F = .ret d ∧ S' = S2
section
variable (W : Wd) (n : Nat) (nm : List (Str × NameKind)) (cs : List Str)
def FoR (target : PySem.Expr) (body orelse : List PySem.Stmt) : Nat → It → St → Flo → St → Prop
  | 0, _, _, _, _ => False
  | m + 1, x, S, F, S' => (x.next S = none ∧ Ex W n nm cs S (execs orelse) F S') ∨
    ∃ d x' S1 F2 S2, x.next S = some (d, x') ∧ bindT nm cs target d S = some S1 ∧ Ex W n nm cs S1 (execs body) F2 S2 ∧ Aft (FoR target body orelse m x') F2 S2 F S'
end
section
variable {W : Wd} {n : Nat} {A : Around} {fs : List Addr} {nm : List (Str × NameKind)} {cs : List Str} {env : Env} {h₀ h h' : Heap} {lo : Nat} {S S' S₁ S₂ : St} {L L' : Lg} {s : Shared} {F : Flo}
theorem bindT_shape {t : PySem.Expr} {d : D} (h : bindT nm cs t d S = some S') : (∃ x p, t = .Name x p) ∨ ∃ es j p, t = .Tuple es j p := by
  cases t with
  | Name x p => exact .inl ⟨x, p, rfl⟩
  | Tuple es j p => exact .inr ⟨es, j, p, rfl⟩
  | _ => exact no_some h
theorem go_ok {t : PySem.Expr} {d : D} {I : Addr} {x : It} {v : Value} {Q : Unit → Shared → Prop} (hb : bindT nm cs t d S = some S') (a : ItAt s.heap L I x) (k : Q () s) : wpAny W.M A (letOwnedTupleGo t (.ref I) v) Q NoE s := by
  rcases bindT_shape hb with ⟨x, p, rfl⟩ | ⟨es, j, p, rfl⟩
  · exact wpAny_pure k
  · exact go_tuple a k
def TurnR (NX : Prop) (Z : Flow → Prop) : Flow → Prop
  | .next => NX
  | .cont => NX
  | .brk => Z .next
  | .ret v => Z (.ret v)
theorem turn_end {R : St → Flo → St → Prop} {F2 : Flo} {S2 : St} {NX : Prop} {Z : Flow → Prop} {f6 : Flow} {h6 : Heap} {L6 : Lg} (fi : FloIs L6 f6 F2) (a : Aft R F2 S2 F S') (P6 : Pre W n A fs nm cs env h₀ 0 S2 h6 L6) (nx : R S2 F S' → NX)
    (q : ∀ f, FloIs L6 f F → Pre W n A fs nm cs env h₀ 0 S' h6 L6 → Z f) : TurnR NX Z f6 := by
  cases fi with
  | next => exact nx a
  | cont => exact nx a
  | brk => obtain ⟨rfl, rfl⟩ := a; exact q .next .next P6
  | ret r => obtain ⟨rfl, rfl⟩ := a; exact q _ (.ret r) P6
theorem led_off {I : Addr} {x : It} (m : MoreS h L L') (i : ItAt h L I x) (hI : ∀ p ∈ L.led, p.1 ≠ I) : ∀ p ∈ L'.led, p.1 ≠ I := by
  obtain ⟨add, ow, rfl, ha⟩ := m
  intro p hp q
  rcases List.mem_append.mp hp with hp | hp
  · obtain ⟨o, fv, ho, _⟩ := i.fields
    rw [← q, ha p hp] at ho
    exact no_some ho
  · exact hI p hp q
/-- what a loop over I keeps -/
structure FoI (W : Wd) (n : Nat) (A : Around) (fs : List Addr) (nm : List (Str × NameKind)) (cs : List Str) (env : Env) (h₀ : Heap) (hb : Heap) (Lb : Lg) (I : Addr) (x : It) (S : St) (h : Heap) (L : Lg) : Prop where
  pre : Pre W n A fs nm cs env h₀ 0 S h L
  it : ItAt h L I x
  off : ∀ p ∈ L.led, p.1 ≠ I
  arr : ArrS hb Lb h L
theorem for_run [Quiet W] {hb : Heap} {Lb : Lg} {I : Addr} {x : It} {k : Nat} {target : PySem.Expr} {body orelse : List PySem.Stmt} {R : Result → Shared → Prop} {h2 : Heap} {t2 : Nat} {L2 : Lg} (hn0 : h₀.get? I = none) (hbI : hb.get? I = none) (hr : FoR W n nm cs target body orelse k x S F S') (J : FoI W n A fs nm cs env h₀ hb Lb I x S h2 L2)
    (q : ∀ f h' tk L', FloIs L' f F → Pre W n A fs nm cs env h₀ 0 S' h' L' → ArrS hb Lb h' L' → R (.ok f) { s with heap := h', toks := tk }) : codeAny W.M A (.forLoop target (.ref I) body orelse env) R { s with heap := h2, toks := t2 } := by
  refine codeAny_forLoop_any (fun m s' => ∃ h3 t3 L3 x3 S3, s' = { s with heap := h3, toks := t3 } ∧ FoR W n nm cs target body orelse m x3 S3 F S' ∧ FoI W n A fs nm cs env h₀ hb Lb I x3 S3 h3 L3) ?_ k ⟨h2, t2, L2, x, S, rfl, hr, J⟩
  rintro m s' ⟨h3, t3, L3, x3, S3, rfl, hr3, J3⟩
  cases m with
  | zero => exact hr3.elim
  | succ m =>
    refine anyE (it_next J3.pre J3.it J3.off hn0 (fun d' x' e' v h4 t4 i4 R4 he4 P4 => ?_) fun e' h4 he4 P4 => ?_)
    · rcases hr3 with ⟨e, _⟩ | ⟨d, y, S1, F2, S2, e, hbd, hbo, af⟩
      · exact no_some (e.symm.trans e')
      · obtain ⟨rfl, rfl⟩ := Prod.mk.inj (Option.some.inj (e.symm.trans e'))
        have as4 : ArrS hb Lb h4 L3 := ⟨ExtBut.kpS' he4 J3.arr.kp hbI, J3.arr.more⟩
        refine anyE (go_ok hbd i4 (anyE (assign_ok P4 R4 hbd fun h5 t5 P5 k5 => anyE (hbo A fs env h₀ { s with heap := h5, toks := t5 } L3 _ P5 fun f h6 t6 L6 f6 P6 a6 => ?_))))
        have i5 := i4.keep k5.toS (.refl _)
        have as6 := as4.trans ((show ArrS h4 L3 h5 L3 from ⟨k5.toS, .refl⟩).trans a6)
        exact turn_end (Z := fun f => R (.ok f) { s with heap := h6, toks := t6 }) f6 af P6 (fun r => ⟨m, Nat.lt_succ_self _, h6, t6, L6, y, S2, rfl, r, P6, i5.keep a6.kp a6.more.le, led_off a6.more i5 J3.off, as6⟩) fun f fi P => q f h6 t6 L6 fi P as6
    · rcases hr3 with ⟨_, hel⟩ | ⟨d, y, S1, F2, S2, e, _⟩
      · have as4 : ArrS hb Lb h4 L3 := ⟨ExtBut.kpS' he4 J3.arr.kp hbI, J3.arr.more⟩
        exact anyE (hel A fs env h₀ { s with heap := h4, toks := t3 } L3 _ P4 fun f h6 t6 L6 f6 P6 a6 => q f h6 t6 L6 f6 P6 (as4.trans a6))
      · exact no_some (e'.symm.trans e)
theorem ex_forR [Quiet W] {target iter : PySem.Expr} {body orelse : List PySem.Stmt} {pos : Pos} {d : D} {x : It} {k : Nat} (v : EvD W n nm cs S iter d) (hx : iterP d = some x)
    (hr : FoR W n nm cs target body orelse k x S F S') (hs : ∀ env x, foldedSetIterable iter env x = pure x) : Ex W n nm cs S (exec (.For target iter body orelse pos)) F S' := by
  intro A fs env h₀ s L Q P q
  refine wpAny_For (ev_bind v P fun v h1 t1 L1 P1 a1 R1 => it_new P1 R1 hx fun I h2 i2 a2 hn => ?_) (hs env)
  refine for_run (s := s) (P1.keep.none hn) (a1.kp.none hn) hr ⟨P1.arr a2, i2, fun p hp z => ?_, (a1.toS P.hi).trans (a2.toS P1.hi)⟩ q
  have := (P1.hi.led p hp).1
  rw [z] at this
  exact no_some ((show h1.get? I = none from hn).symm.trans this)
end
end
section
open PySem PySem.W PyProof.Rows PySem.Spec PySem.Calls
set_option maxRecDepth 100000
set_option maxHeartbeats 1000000
theorem rep_pure {L L' : Lg} (hs : ∀ p ∈ L.led, p ∈ L'.led) : ∀ (k : Nat) {v : Value} {d : D}, pureP k d = true → Rep L v d → Rep L' v d := by
  intro k
  induction k with
  | zero =>
    intro v d p R
    cases R with
    | none => exact .none
    | bool b => exact .bool b
    | int i t => exact .int i t
    | str x t => exact Rep.str x t
    | list _ _ => cases p
    | tup _ _ => cases p
    | range _ => cases p
    | own _ => cases p
    | set _ _ _ => cases p
  | succ k ih =>
    have all : ∀ {vs : List Value} {ds : List D}, ds.all (pureP k) = true → Reps L vs ds → Reps L' vs ds := by
      intro vs
      induction vs with
      | nil => intro ds _ R; cases R; exact .nil
      | cons v vs ih2 =>
        intro ds p R
        cases R with
        | cons r1 r2 =>
          rw [List.all_cons, Bool.and_eq_true] at p
          exact .cons (ih p.1 r1) (ih2 p.2 r2)
    intro v d p R
    cases R with
    | none => exact .none
    | bool b => exact .bool b
    | int i t => exact .int i t
    | str x t => exact Rep.str x t
    | list m r => exact .list (hs _ m) (all p r)
    | tup m r => exact .tup (hs _ m) (all p r)
    | range _ => cases p
    | own _ => cases p
    | set _ _ _ => cases p
theorem reps_pure {L L' : Lg} (hs : ∀ p ∈ L.led, p ∈ L'.led) {k : Nat} {vs : List Value} {ds : List D} (p : ds.all (pureP k) = true) (R : Reps L vs ds) : Reps L' vs ds := by
  induction vs generalizing ds with
  | nil => cases R; exact .nil
  | cons v vs ih =>
    cases R with
    | cons r1 r2 =>
      rw [List.all_cons, Bool.and_eq_true] at p
      exact .cons (rep_pure hs k p.1 r1) (ih p.2 r2)
/-- what a def gives back: an own list is never written again -/
def retP (S : St) : D → Option D
  | .own k => match S.own[k]? with
    | some (.list ds) => if ds.all (pureP 5) then some (.list ds) else none
    | none => none
  | .set tx m => some (.set tx m)
  | d => if pureP 6 d then some d else none
theorem bindL_miss {ko : Str → Option NameKind} {x : Str} : ∀ (bs : List (Str × Value)) (m : Str → Option Value), (∀ p ∈ bs, p.1 ≠ x) → bindL ko bs m x = m x := by
  intro bs
  induction bs with
  | nil => intro m _; rfl
  | cons p r ih =>
    intro m h
    obtain ⟨y, v⟩ := p
    unfold bindL
    rw [ih _ fun q hq => h q (.tail _ hq)]
    split
    · exact if_neg (Ne.symm (h _ (.head _)))
    · rfl
theorem bindC_miss {ko : Str → Option NameKind} {x : Str} : ∀ (bs : List (Str × Value)) (m : Str → Option Value), (∀ p ∈ bs, p.1 ≠ x) → bindC ko bs m x = m x := by
  intro bs
  induction bs with
  | nil => intro m _; rfl
  | cons p r ih =>
    intro m h
    obtain ⟨y, v⟩ := p
    unfold bindC
    rw [ih _ fun q hq => h q (.tail _ hq)]
    split
    · rfl
    · exact if_neg (Ne.symm (h _ (.head _)))
theorem bindL_hit {ko : Str → Option NameKind} {x : Str} {v : Value} : ∀ (bs : List (Str × Value)) (m : Str → Option Value), (bs.map (·.1)).Nodup → (x, v) ∈ bs → ko x = some .local → bindL ko bs m x = some v := by
  intro bs
  induction bs with
  | nil => intro m _ h; cases h
  | cons p r ih =>
    intro m hn h hk
    obtain ⟨y, u⟩ := p
    rw [List.map_cons, List.nodup_cons] at hn
    unfold bindL
    rcases List.mem_cons.mp h with e | h
    · cases e
      rw [bindL_miss _ _ fun q hq e => hn.1 (by have := List.mem_map_of_mem (f := fun z : Str × Value => z.1) hq; rw [e] at this; exact this), if_pos hk]
      exact if_pos rfl
    · exact ih _ hn.2 h hk
theorem bindC_hit {ko : Str → Option NameKind} {x : Str} {v : Value} : ∀ (bs : List (Str × Value)) (m : Str → Option Value), (bs.map (·.1)).Nodup → (x, v) ∈ bs → ko x ≠ some .local → bindC ko bs m x = some v := by
  intro bs
  induction bs with
  | nil => intro m _ h; cases h
  | cons p r ih =>
    intro m hn h hk
    obtain ⟨y, u⟩ := p
    rw [List.map_cons, List.nodup_cons] at hn
    unfold bindC
    rcases List.mem_cons.mp h with e | h
    · cases e
      rw [bindC_miss _ _ fun q hq e => hn.1 (by have := List.mem_map_of_mem (f := fun z : Str × Value => z.1) hq; rw [e] at this; exact this), if_neg hk]
      exact if_pos rfl
    · exact ih _ hn.2 h hk
section
variable {W : Wd} {n : Nat} {A : Around} {fs : List Addr} {h : Heap} {L : Lg} {s : Shared}
theorem zip_reps {ps : List Str} {vs : List Value} {ds : List D} (R : Reps L vs ds) : ∀ p ∈ ps.zip ds, ∃ v, (p.1, v) ∈ ps.zip vs ∧ Rep L v p.2 := by
  induction vs generalizing ps ds with
  | nil => cases R; intro p hp; rw [List.zip_nil_right] at hp; cases hp
  | cons v vs ih =>
    cases R with
    | cons r1 r2 =>
      cases ps with
      | nil => intro p hp; cases hp
      | cons x ps =>
        intro p hp
        rw [List.zip_cons_cons] at hp
        rcases List.mem_cons.mp hp with rfl | hp
        · exact ⟨v, .head _, r1⟩
        · obtain ⟨u, h1, h2⟩ := ih r2 p hp
          exact ⟨u, .tail _ h1, h2⟩
end
def ownLed (L : Lg) (h : Heap) : Led := L.ow.filterMap fun a => (h.get? a).map fun o => (a, o)
section
variable {W : Wd} {n : Nat} {A : Around} {fs : List Addr} {nm : List (Str × NameKind)} {cs : List Str} {env : Env} {h₀ h : Heap} {lo : Nat} {S : St} {L L' : Lg}
theorem ownLed_mem {p : Addr × Obj} (hp : p ∈ ownLed L h) : p.1 ∈ L.ow := by
  obtain ⟨a, ha, hm⟩ := List.mem_filterMap.mp hp
  cases q : h.get? a with
  | none => rw [q] at hm; exact no_some hm
  | some o => rw [q] at hm; cases hm; exact ha
theorem ownLed_ok (P : Pre W n A fs nm cs env h₀ lo S h L) (p : Addr × Obj) (hp : p ∈ ownLed L h) : h.get? p.1 = some p.2 ∧ dataOk p.2 = true := by
  obtain ⟨a, ha, hm⟩ := List.mem_filterMap.mp hp
  obtain ⟨vs, c, e⟩ := own_off P ha
  rw [e] at hm
  cases hm
  exact ⟨e, rfl⟩
theorem retP_ok (P : Pre W n A fs nm cs env h₀ lo S h L) (h1 : ∀ p ∈ L.led, p ∈ L'.led) (h2 : ∀ p ∈ ownLed L h, p ∈ L'.led) {v : Value} {d d' : D} (R : Rep L v d) (e : retP S d = some d') : Rep L' v d' := by
  unfold retP at e
  split at e
  · rename_i k
    split at e
    · rename_i es he
      split at e
      · rename_i hp
        cases e
        cases R with
        | @own _ a ha =>
          obtain ⟨ws, c, e1, r1⟩ := own_at P he ha
          exact .list (h2 _ (List.mem_filterMap.mpr ⟨a, List.mem_of_getElem? ha, by rw [e1]; rfl⟩)) (reps_pure (k := 5) h1 hp r1)
      · cases e
    · cases e
  · cases e
    cases R with
    | set hm x y => exact .set (h1 _ hm) x y
  · split at e
    · rename_i hp
      cases e
      exact rep_pure (k := 6) h1 hp R
    · cases e
theorem out_own {A' : Around} {fs' : List Addr} {h₁ h₂ : Heap} {L₂ : Lg} {v : Value} {d' : D} (H : HI W (n + 1) A fs h L) (P : Pre W n A' fs' nm cs env h lo S h₂ L₂) (hz : lo = 0) (m : MoreS h₁ ⟨L.led, []⟩ L₂) (hn : ∀ a, h₁.get? a = none → h.get? a = none) (k : Kp fs h h₂) (hR : ∀ L', (∀ p ∈ L₂.led, p ∈ L'.led) → (∀ p ∈ ownLed L₂ h₂, p ∈ L'.led) → Rep L' v d') : ∃ L', Arr W (n + 1) A fs h L h₂ L' ∧ Rep L' v d' := by
  subst hz
  obtain ⟨add, ow, hL2, hadd⟩ := m
  have H2 := H.kp k
  have hled2 := P.hi.led
  refine ⟨⟨(ownLed L₂ h₂ ++ add) ++ L.led, L.ow⟩, ⟨⟨H2.handled, H2.room, H2.units, H2.stk, H2.base, fun p hp => ?_, ⟨fun p hp hc => ?_, H.nb.2⟩⟩, k, ownLed L₂ h₂ ++ add, rfl, fun p hp => ?_⟩, hR _ (fun p hp => ?_) (fun p hp => List.mem_append_left _ (List.mem_append_left _ hp))⟩
  · rw [List.append_assoc] at hp
    exact (List.mem_append.mp hp).elim (ownLed_ok P p) fun hp => hled2 p (by rw [hL2]; exact hp)
  · rw [List.append_assoc] at hp
    exact (List.mem_append.mp hp).elim (fun hp => P.hi.nb.2 _ (ownLed_mem hp)) fun hp => P.hi.nb.1 p (by rw [hL2]; exact hp) hc
  · refine (List.mem_append.mp hp).elim (fun hp => ?_) fun hp => hn _ (hadd p hp)
    obtain ⟨k, hk⟩ := List.getElem?_of_mem (ownLed_mem hp)
    exact P.owns.fresh k _ hk (Nat.zero_le _)
  · rw [hL2] at hp
    rw [List.append_assoc]
    exact List.mem_append_right _ hp
end
section
variable {W : Wd} {n : Nat}
theorem fn_core {bl : Led} {f : Addr} {o : Obj} {fd : FuncData} {body : List PySem.Stmt} {ds : List D} {d d' : D} {ps : List Str} {S' : St} {cs : List Str} (hbl : ∀ p ∈ bl, W.base.get? p.1 = some p.2 ∧ dataOk p.2 = true ∧ p.2.cls ≠ .type "list") (ho : W.K.lookup f = some o) (hd : o.data = .func fd) (hcd : codeIn W.K fd.code fd.qualname = true) (hbody : fd.body = .stmts body)
    (hbind : ∀ vs : List Value, vs.length = ps.length → bindArgs fd ⟨vs, []⟩ = pure (ps.zip vs)) (hclo : fd.closure = []) (hg : fd.globals = mainGlobals) (hb : fd.builtins = builtinsNs) (hco : fd.scope.isCoroutine = false) (hgen : fd.scope.isGenerator = false) (hk : fd.scope.kind = .function)
    (hps : ps.all (fun x => fd.scope.names.lookup x == some .local || fd.scope.names.lookup x == some .cell) = true) (hnd : ps.Nodup) (hcs : ∀ x ∈ cs, fd.scope.names.lookup x = some .cell) (hlen : ds.length = ps.length) (hpure : ds.all (pureP 6) = true)
    (run : ∀ (A : Around) (fs : List Addr) (env : Env) (outer : List Env) (Lc : Addr) (h₀ : Heap) (s : Shared) (L : Lg) (Q : Flow → Shared → Prop), A.frames = some (env :: outer) → env.frame = some Lc → (∀ p ∈ bl, p ∈ L.led) → Pre W n A fs fd.scope.names cs env h₀ 0 ⟨ps.zip ds, []⟩ s.heap L →
      (∀ f h' tk L', FloIs L' f (.ret d) → Pre W n A fs fd.scope.names cs env h₀ 0 S' h' L' → ArrS s.heap L h' L' → Q f { s with heap := h', toks := tk }) → wpAny W.M A (execs body env) Q NoE s)
    (out : ∀ {A A' : Around} {fs fs' : List Addr} {env : Env} {h₀ h₁ h₂ : Heap} {L L₂ : Lg} {v : Value}, HI W (n + 1) A fs h₀ L → Pre W n A' fs' fd.scope.names cs env h₀ 0 S' h₂ L₂ → Rep L₂ v d → MoreS h₁ ⟨bl ++ L.led, []⟩ L₂ → (∀ a, h₁.get? a = none → h₀.get? a = none) → Kp fs h₀ h₂ → ∃ L', Arr W (n + 1) A fs h₀ L h₂ L' ∧ Rep L' v d') : OpN W (n + 1) (callT (.ref f)) ds d' := by
  intro A fs L vs R s Q H q
  have hv : vs.length = ps.length := R.length.trans hlen
  have hmap : (ps.zip vs).map (·.1) = ps := by rw [List.map_fst_zip]; omega
  have hkb : ∀ n, ∀ x ∈ ps.zip vs, fd.scope.names.lookup x.1 = some .local ∨ (fd.scope.names.lookup x.1 = some .cell ∧ ((cellsFrom n fd.scope.names []).lookup x.1).isSome = true) := by
    refine kindsX ?_
    rw [List.all_eq_true] at hps ⊢
    intro p hp
    exact hps p.1 (List.of_mem_zip hp).1
  have X := H.inK
  refine wpAny_call (codeAny_call_cells (fd := fd) (by have := H.room; omega) (X _ _ ho) hd (W.nolim.keeps H.base) (codeRec_of X hcd) hbody (hbind vs hv) hclo (hkb _) (fun s₁ I => ?_) hco hgen hk)
  · obtain ⟨h1, t1, rfl, hkeep⟩ := I.done
    have hfr : ∀ b, @LE.le Nat instLENat s.heap.objs.size b → s.heap.get? b = none := fun b hb => Heap.get?_none_of_le hb
    have hLn : s.heap.get? (callEnvC fd s.heap.objs.size f).locals = none := hfr _ (Nat.le_refl _)
    obtain ⟨oL, es, ep, eL, dL, _⟩ := I.toInCall.ns
    have hSt : Stk W.base (A.deeper (callEnvC fd s.heap.objs.size f)) ((callEnvC fd s.heap.objs.size f).locals :: fs) h1 := by
      obtain ⟨l, frs, f1, f2, f3, f4⟩ := H.stk
      refine ⟨callEnvC fd s.heap.objs.size f :: l, ((callEnvC fd s.heap.objs.size f).locals, oL) :: frs, by show A.frames.map _ = _; rw [f1]; rfl, ⟨?_, rfl, ⟨es, ep, dL⟩, f2⟩, by rw [List.map_cons, f3], fun p hp => ?_⟩
      · show fd.scope.kind ≠ .module
        rw [hk]; decide
      · rcases List.mem_cons.mp hp with rfl | hp
        · refine ⟨eL, ?_⟩
          cases e : W.base.get? (callEnvC fd s.heap.objs.size f).locals with
          | none => rfl
          | some o => rw [H.base _ _ e] at hLn; cases hLn
        · exact ⟨hkeep _ _ (f4 p hp).1, (f4 p hp).2⟩
    have hkp : Kp ((callEnvC fd s.heap.objs.size f).locals :: fs) s.heap h1 := .of_keep hkeep
    have hle : ∀ p ∈ L.led, p ∈ (⟨bl ++ L.led, []⟩ : Lg).led := fun _ z => List.mem_append_right _ z
    have P : Pre W n (A.deeper (callEnvC fd s.heap.objs.size f)) ((callEnvC fd s.heap.objs.size f).locals :: fs) fd.scope.names cs (callEnvC fd s.heap.objs.size f) s.heap 0 ⟨ps.zip ds, []⟩ h1 ⟨bl ++ L.led, []⟩ := by
      refine ⟨⟨H.handled, ?_, ?_, hSt, fun b o e => hkeep b o (H.base b o e), fun p hp => (List.mem_append.mp hp).elim (fun z => ⟨hkeep _ _ (H.base _ _ (hbl p z).1), (hbl p z).2.1⟩) fun z => ⟨hkeep _ _ (H.led p z).1, (H.led p z).2⟩, ⟨fun p hp hc => (List.mem_append.mp hp).elim (fun z => absurd hc (hbl p z).2.2) fun z => H.nb.1 p z hc, fun a ha => nomatch ha⟩⟩, rfl, hk, hg, ⟨hb, code_ok hcd⟩, hkp, ⟨_, I.toInCall.ns⟩, hLn, (fun z => nomatch z), fun b hb => ?_, fun x hx => ?_, fun x y c e1 e2 => ?_, fun p hp => ?_, ⟨rfl, .nil, fun k a e => ?_, (fun a ha => nomatch ha), fun k a w e => ?_⟩⟩
      · show A.depth + 1 + n < recursionLimit
        have := H.room; omega
      · show A.units + 3 + 8 * n + 16 < cLine
        have := H.units; omega
      · cases e : W.base.get? b with
        | none => rfl
        | some o => rw [H.base _ _ e] at hb; cases hb
      · have := cellsFrom_some (x := x) fd.scope.names (s.heap.objs.size + 1) [] (.inl (hcs x hx))
        obtain ⟨c, hc⟩ := Option.isSome_iff_exists.mp this
        obtain ⟨o, e1, e2⟩ := I.cell x c hc
        exact ⟨c, o, _, hc, hfr _ (Nat.le_of_lt (I.above x c (mem_of_lookup hc))), e1, e2⟩
      · exact name_of_addr I.apart (mem_of_lookup e1) (mem_of_lookup e2)
      · obtain ⟨v, hm, hr⟩ := zip_reps (reps_pure hle hpure R) p hp
        refine ⟨v, ?_, hr⟩
        rcases hkb (s.heap.objs.size + 1) _ hm with hl | ⟨hl, hc⟩
        · exact .inl ⟨hl, _, I.toInCall.ns, bindL_hit _ _ (by rw [hmap]; exact hnd) hm hl⟩
        · obtain ⟨c, hc⟩ := Option.isSome_iff_exists.mp hc
          obtain ⟨o, e1, e2⟩ := I.cell p.1 c hc
          refine .inr ⟨.inl hl, c, o, hc, e1, ?_⟩
          have hl' : (callEnvC fd s.heap.objs.size f).kindOf p.1 = some .cell := hl
          rw [e2, bindC_hit _ _ (by rw [hmap]; exact hnd) hm (by rw [hl']; decide)]
      · cases k <;> cases e
      · cases k <;> cases e
    obtain ⟨lA, _, hlA, _⟩ := H.stk
    refine anyE (run (A.deeper (callEnvC fd s.heap.objs.size f)) _ (callEnvC fd s.heap.objs.size f) lA s.heap.objs.size _ { s with heap := h1, toks := t1 } _ _ (by show A.frames.map _ = _; rw [hlA]; rfl) rfl (fun p hp => List.mem_append_left _ hp) P fun fl h2 t2 L2 f2 P2 a2 => ?_)
    cases f2 with
    | @ret v _ r =>
      show Q v _
      have hkp2 : Kp fs s.heap h2 := P2.keep.sub fun b o e hb => by
        rcases List.mem_cons.mp hb with rfl | hb
        · rw [hLn] at e; cases e
        · exact hb
      obtain ⟨L', ar, hr⟩ := out H P2 r a2.more (fun _ => hkp.none) hkp2
      exact q v h2 t2 L' ar hr
theorem fn_ok {f : Addr} {o : Obj} {fd : FuncData} {body : List PySem.Stmt} {ds : List D} {d d' : D} {ps : List Str} {S' : St} {cs : List Str} (ho : W.K.lookup f = some o) (hd : o.data = .func fd) (hcd : codeIn W.K fd.code fd.qualname = true) (hbody : fd.body = .stmts body)
    (hbind : ∀ vs : List Value, vs.length = ps.length → bindArgs fd ⟨vs, []⟩ = pure (ps.zip vs)) (hclo : fd.closure = []) (hg : fd.globals = mainGlobals) (hb : fd.builtins = builtinsNs) (hco : fd.scope.isCoroutine = false) (hgen : fd.scope.isGenerator = false) (hk : fd.scope.kind = .function)
    (hps : ps.all (fun x => fd.scope.names.lookup x == some .local || fd.scope.names.lookup x == some .cell) = true) (hnd : ps.Nodup) (hcs : ∀ x ∈ cs, fd.scope.names.lookup x = some .cell) (hlen : ds.length = ps.length) (hpure : ds.all (pureP 6) = true)
    (run : Ex W n fd.scope.names cs ⟨ps.zip ds, []⟩ (execs body) (.ret d) S') (hret : retP S' d = some d') : OpN W (n + 1) (callT (.ref f)) ds d' :=
  fn_core (bl := []) (fun _ hp => nomatch hp) ho hd hcd hbody hbind hclo hg hb hco hgen hk hps hnd hcs hlen hpure (fun A fs env _ _ h₀ s L Q _ _ _ P k => run A fs env h₀ s L Q P k) fun H P R m hn k => out_own H P rfl m hn k fun _ h1 h2 => retP_ok P h1 h2 R hret
end
end
section
open PySem PySem.W PyProof.Rows PySem.Spec PySem.Calls
set_option maxRecDepth 100000
set_option maxHeartbeats 1000000
def names : PySem.Expr → List Str
  | .Name x _ => [x]
  | .Tuple es _ _ => es.filterMap nameOf
  | _ => []
/-- a comprehension's clause binds names that stand for nothing yet -/
def bindF (nm : List (Str × NameKind)) (cs : List Str) (t : PySem.Expr) (d : D) (S : St) : Option St :=
  if (names t).all fun x => (getL x S.vars).isNone then bindT nm cs t d S else none
theorem getL_none {α : Type} {x : Str} {l : List (Str × α)} (h : getL x l = none) : ∀ p ∈ l, p.1 ≠ x := by
  induction l with
  | nil => intro p hp; cases hp
  | cons q r ih =>
    intro p hp
    unfold getL at h
    split at h
    · cases h
    · rename_i hq
      rcases List.mem_cons.mp hp with rfl | hp
      · intro e; exact hq (by rw [e]; simp)
      · exact ih h p hp
theorem bindEach_vars {nm : List (Str × NameKind)} {cs : List Str} : ∀ {es : List PySem.Expr} {ds : List D} {S S' : St}, bindEach nm cs es ds S = some S' → S'.own = S.own ∧ ∀ p ∈ S.vars, (∀ x ∈ es.filterMap nameOf, p.1 ≠ x) → p ∈ S'.vars := by
  intro es
  induction es with
  | nil =>
    intro ds S S' e
    cases ds with
    | nil => cases e; exact ⟨rfl, fun p hp _ => hp⟩
    | cons _ _ => exact no_some e
  | cons t es ih =>
    intro ds S S' e
    obtain ⟨x, pos, d, ds, rfl, rfl, _, e⟩ := bindEach_inv e
    obtain ⟨h1, h2⟩ := ih e
    refine ⟨h1, fun p hp hx => h2 p ?_ fun y hy => hx y (by rw [List.filterMap_cons]; exact List.mem_cons_of_mem _ hy)⟩
    refine List.mem_cons_of_mem _ (List.mem_filter.mpr ⟨hp, ?_⟩)
    have := hx x (by rw [List.filterMap_cons]; exact List.mem_cons_self)
    simpa using this
theorem bindF_vars {nm : List (Str × NameKind)} {cs : List Str} {t : PySem.Expr} {d : D} {S S' : St} (h : bindF nm cs t d S = some S') : bindT nm cs t d S = some S' ∧ S'.own = S.own ∧ ∀ p ∈ S.vars, p ∈ S'.vars := by
  unfold bindF at h
  split at h
  · rename_i hf
    refine ⟨h, ?_⟩
    have hf : ∀ x ∈ names t, ∀ p ∈ S.vars, p.1 ≠ x := fun x hx => getL_none (Option.isNone_iff_eq_none.mp (List.all_eq_true.mp hf x hx))
    cases t with
    | Name x p =>
      by_cases hx : storable nm cs x = true
      · cases (if_pos hx).symm.trans h
        refine ⟨rfl, fun q hq => List.mem_cons_of_mem _ (List.mem_filter.mpr ⟨hq, ?_⟩)⟩
        simpa using hf x (.head _) q hq
      · exact no_some ((if_neg hx).symm.trans h)
    | Tuple es j p =>
      cases d with
      | list ds => obtain ⟨h1, h2⟩ := bindEach_vars h; exact ⟨h1, fun q hq => h2 q hq fun x hx => hf x hx q hq⟩
      | tup ds => obtain ⟨h1, h2⟩ := bindEach_vars h; exact ⟨h1, fun q hq => h2 q hq fun x hx => hf x hx q hq⟩
      | _ => exact no_some h
    | _ => exact no_some h
  · cases h
section
variable {W : Wd} {n : Nat} {A : Around} {fs : List Addr} {nm : List (Str × NameKind)} {cs : List Str} {env : Env} {h₀ h h' : Heap} {lo : Nat} {S S' S₁ S₂ : St} {L L' : Lg} {s : Shared} {F : Flo}
theorem it_self {I : Addr} {x : It} {Q : Value → Shared → Prop} (a : ItAt s.heap L I x) (q : Q (.ref I) s) : wpAny W.M A (pyIter (.ref I)) Q NoE s := by
  cases a with
  | list h _ _ _ => exact wpAny_pyIter_listiter h q
  | tup h _ _ _ => exact wpAny_pyIter_tupleiter h q
  | range h _ => exact wpAny_pyIter_rangeiter h q
  | own h _ => exact wpAny_pyIter_listiter h q
def TsL (W : Wd) (n : Nat) (nm : List (Str × NameKind)) (cs : List Str) (S : St) : List PySem.Expr → Bool → Prop
  | [], b => b = true
  | e :: r, b => (TsU W n nm cs S e true ∧ TsL W n nm cs S r b) ∨ (TsU W n nm cs S e false ∧ b = false)
def testAll (env : Env) (ifs : List PySem.Expr) (b : Bool) : Sem Bool := forIn ifs b fun c r => if r = true then do let ok ← isTrue c env (eval c env); pure (ForInStep.yield ok) else pure (ForInStep.yield r)
theorem tests_skip : ∀ (ifs : List PySem.Expr) {s : Shared} {Q : Bool → Shared → Prop}, Q false s → wpAny W.M A (testAll env ifs false) Q NoE s := by
  intro ifs
  induction ifs with
  | nil => intro s Q q; exact wpAny_pure q
  | cons c r ih =>
    intro s Q q
    unfold testAll
    rw [List.forIn_cons, if_neg Bool.false_ne_true]
    exact wpAny_bind (wpAny_pure (ih q))
theorem tests_ok : ∀ {ifs : List PySem.Expr} {b : Bool} {s : Shared} {L : Lg} {Q : Bool → Shared → Prop}, TsL W n nm cs S ifs b → Pre W n A fs nm cs env h₀ lo S s.heap L →
    (∀ h' tk L', Arr W n A fs s.heap L h' L' → Q b { s with heap := h', toks := tk }) → wpAny W.M A (testAll env ifs true) Q NoE s := by
  intro ifs
  induction ifs with
  | nil =>
    intro b s L Q e P q
    rw [show b = true from e] at q
    exact wpAny_pure (q s.heap s.toks L (.refl P.hi))
  | cons c r ih =>
    intro b s L Q e P q
    unfold testAll
    rw [List.forIn_cons, if_pos rfl]
    rcases e with ⟨t, e⟩ | ⟨t, e⟩
    · exact wpAny_bind (wpAny_bind (t A fs env h₀ lo s L _ P fun h1 t1 L1 a1 => wpAny_pure (ih e (P.arr a1) fun h2 t2 L2 a2 => q h2 t2 L2 (a1.trans a2))))
    · rw [e] at q
      exact wpAny_bind (wpAny_bind (t A fs env h₀ lo s L _ P fun h1 t1 L1 a1 => wpAny_pure (tests_skip r (q h1 t1 L1 a1))))
/-- what a turn of a clause leaves -/
structure CI (W : Wd) (n : Nat) (A : Around) (fs : List Addr) (nm : List (Str × NameKind)) (cs : List Str) (env : Env) (h₀ : Heap) (lo : Nat) (S : St) (X : Addr) (acc : List D) (h : Heap) (L₀ L : Lg) : Prop where
  pre : Pre W n A fs nm cs env h₀ lo S h L
  more : More h₀ L₀ L
  acc : ∃ vs c, h.get? X = some (lob vs c) ∧ Reps L vs acc
  offX : (∀ p ∈ L.led, p.1 ≠ X) ∧ X ∉ L.ow ∧ h₀.get? X = none
variable {X I : Addr} {acc : List D} {L₀ : Lg}
theorem CI.alive (c : CI W n A fs nm cs env h₀ lo S X acc h L₀ L) : h.get? X ≠ none := by
  obtain ⟨vs, k, e, _⟩ := c.acc
  rw [e]; intro q; cases q
theorem CI.arr (c : CI W n A fs nm cs env h₀ lo S X acc h L₀ L) (a : Arr W n A fs h L h' L') : CI W n A fs nm cs env h₀ lo S X acc h' L₀ L' := by
  obtain ⟨vs, k, e, r⟩ := c.acc
  have hD : X ∉ fs := off_data c.pre.hi.stk e rfl
  refine ⟨c.pre.arr a, c.more.trans (fun b q => c.pre.keep.none q) a.more, ⟨vs, k, a.kp.same _ _ e hD, r.mono a.le⟩, ?_, ?_, c.offX.2.2⟩
  · obtain ⟨add, rfl, ha⟩ := a.more
    intro p hp q
    rcases List.mem_append.mp hp with hp | hp
    · have := ha p hp; rw [q] at this; exact c.alive this
    · exact c.offX.1 p hp q
  · obtain ⟨add, rfl, ha⟩ := a.more
    exact c.offX.2.1
theorem CI.bind (c : CI W n A fs nm cs env h₀ lo S X acc h L₀ L) (P : Pre W n A fs nm cs env h₀ lo S' h' L) (k : KpA h h') : CI W n A fs nm cs env h₀ lo S' X acc h' L₀ L := by
  obtain ⟨vs, m, e, r⟩ := c.acc
  exact ⟨P, c.more, ⟨vs, m, k.1 _ _ e rfl, r⟩, c.offX⟩
theorem CI.move (c : CI W n A fs nm cs env h₀ lo S X acc h L₀ L) (P : Pre W n A fs nm cs env h₀ lo S h' L) (he : Heap.ExtBut I h h') (hI : X ≠ I) : CI W n A fs nm cs env h₀ lo S X acc h' L₀ L := by
  obtain ⟨vs, m, e, r⟩ := c.acc
  exact ⟨P, c.more, ⟨vs, m, he _ _ hI e, r⟩, c.offX⟩
theorem CI.weak (c : CI W n A fs nm cs env h₀ lo S X acc h L₀ L) (hv : ∀ p ∈ S'.vars, p ∈ S.vars) (ho : S'.own = S.own) : CI W n A fs nm cs env h₀ lo S' X acc h L₀ L := ⟨c.pre.weak hv ho, c.more, c.acc, c.offX⟩
/-- what a clause keeps -/
def KpF (I : Addr) (h h' : Heap) : Prop := (∀ b o vs, b ≠ I → h.get? b = some o → o.data = .fields vs → h'.get? b = some o) ∧ ∀ b, b ≠ I → h'.get? b = none → h.get? b = none
theorem KpF.trans {h1 h2 h3 : Heap} (x : KpF I h1 h2) (y : KpF I h2 h3) : KpF I h1 h3 := ⟨fun b o vs q e d => y.1 b o vs q (x.1 b o vs q e d) d, fun b q e => x.2 b q (y.2 b q e)⟩
theorem KpF.of_ext {h1 h2 : Heap} (he : Heap.ExtBut I h1 h2) : KpF I h1 h2 := ⟨fun b o vs q e d => he b o q e, fun b q e => by
  cases e' : h1.get? b with
  | none => rfl
  | some o => rw [he b o q e'] at e; cases e⟩
theorem KpF.of_A {h1 h2 : Heap} (k : KpA h1 h2) : KpF I h1 h2 := ⟨fun b o vs q e d => k.1 b o e (by unfold dataOk; rw [d]), fun b q e => k.2 b e⟩
theorem CI.push (c : CI W n A fs nm cs env h₀ lo S X acc s.heap L₀ L) {d : D} {v : Value} {Q : Value → Shared → Prop} (R : Rep L v d) (hz : acc.length ≤ 100000)
    (q : ∀ h', CI W n A fs nm cs env h₀ lo S X (acc ++ [d]) h' L₀ L → KpF I s.heap h' → Q .none { s with heap := h' }) : wpAny W.M A (call (.builtin "list.append") [.ref X, v]) Q NoE s := by
  obtain ⟨vs, m, e, r⟩ := c.acc
  refine append_at e (fun h' hs ho => ?_) (by rw [List.size_toArray, r.length, sizeLine_eq]; omega)
  have P' : Pre W n A fs nm cs env h₀ lo S h' L := c.pre.off e (off_data c.pre.hi.stk e rfl) (fun q => by
    obtain ⟨m', o', es, ep, e', d', _⟩ := c.pre.loc
    rw [q, e] at e'
    cases e'
    cases d') (fun w q => by cases q) c.offX.2.1 c.offX.1 c.offX.2.2 hs.extBut
  refine q h' ⟨P', c.more, ⟨vs ++ [v], m + 1, by rw [ho]; simp [lob], r.append (.cons R .nil)⟩, c.offX⟩ ⟨fun b o fv hb e' d' => ?_, fun b hb e' => ?_⟩
  · by_cases hbX : b = X
    · rw [hbX, e] at e'; cases e'; cases d'
    · exact (hs.2 b hbX).trans e'
  · by_cases hbX : b = X
    · rw [hbX, ho] at e'; cases e'
    · rw [← hs.2 b hbX]; exact e'
theorem start_list {elt : PySem.Expr} {gens : List Comprehension} {scope : Scope} {pos : Pos} {depth : Nat} {g : Comprehension} {x : It} {acc : Value} {R : Result → Shared → Prop} (hg : gens[depth]? = some g) (ha : g.is_async = 0) (a : ItAt s.heap L I x)
    (h : codeAny W.M A (.compLoop (.ListComp elt gens scope pos) depth (.ref I) acc env) R s) : codeAny W.M A (.compStart (.ListComp elt gens scope pos) depth (.ref I) acc env) R s := by
  refine codeAny_of_tree ?_
  show wpAny _ _ ((compStart (.ListComp elt gens scope pos) depth (.ref I) acc env).onRaise (fun x => do noteFrame x env; standAt theWindowsPlace)) _ _ s
  refine wpAny_notedAt ?_
  unfold compStart
  have hc : (clausesOf (.ListComp elt gens scope pos))[depth]? = some g := hg
  rw [hc, if_neg (show ¬ ((some g).elim false (fun x => x.is_async != 0)) = true by show ¬ (g.is_async != 0) = true; rw [ha]; decide)]
  dsimp only
  show wpAny _ _ (ask >>= _) _ _ s
  refine wpAny_bind (wpAny_askSetting (wpAny_ite ?_))
  split
  · first
      | exact wpAny_bind (wpAny_pure (wpAny_pure (And.intro rfl h)))
      | exact wpAny_pure (And.intro rfl h)
  · refine wpAny_bind (wpAny_rule ?_)
    refine wpAny_bind (wpAny_standAt ?_)
    exact wpAny_bind (anyE (it_self a (wpAny_pure (And.intro rfl h))))
theorem ItAt.same {x : It} (a : ItAt h L I x) (e : h'.get? I = h.get? I) : ItAt h' L I x := by
  cases a with
  | list z m r q => obtain ⟨o, e', c, d⟩ := z; exact .list ⟨o, e.trans e', c, d⟩ m r q
  | tup z m r q => obtain ⟨o, e', c, d⟩ := z; exact .tup ⟨o, e.trans e', c, d⟩ m r q
  | range z q => exact .range (e.trans z) q
  | own z q => obtain ⟨o, e', c, d⟩ := z; exact .own ⟨o, e.trans e', c, d⟩ q
theorem ItAt.mono {x : It} (a : ItAt h L I x) (l : L.le L') : ItAt h L' I x := by
  cases a with
  | list z m r q => exact .list z (l.led _ m) (r.mono l) q
  | tup z m r q => exact .tup z (l.led _ m) (r.mono l) q
  | range z q => exact .range z q
  | own z q => exact .own z (l.ow _ _ q)
/-- what a comprehension's clauses gather -/
def ClR (W : Wd) (n : Nat) (nm : List (Str × NameKind)) (cs : List Str) (elt : PySem.Expr) : Nat → List Comprehension → It → St → List D → List D → Prop
  | 0, _, _, _, _, _ => False
  | k + 1, gens, x, S, acc, acc' => match gens with
    | [] => False
    | g :: gs => (x.next S = none ∧ acc' = acc) ∨ ∃ d x' S1 b acc1, x.next S = some (d, x') ∧ bindF nm cs g.target d S = some S1 ∧ TsL W n nm cs S1 g.ifs b ∧ ClR W n nm cs elt k (g :: gs) x' S acc1 acc' ∧
      (match b, gs with
      | false, _ => acc1 = acc
      | true, [] => ∃ d2, EvD W n nm cs S1 elt d2 ∧ acc.length ≤ 100000 ∧ acc1 = acc ++ [d2]
      | true, g' :: gs' => ∃ di xi, EvD W n nm cs S1 g'.iter di ∧ iterP di = some xi ∧ ClR W n nm cs elt k (g' :: gs') xi S1 acc acc1)
/-- within a turn -/
structure Mid (W : Wd) (n : Nat) (A : Around) (fs : List Addr) (nm : List (Str × NameKind)) (cs : List Str) (env : Env) (h₀ : Heap) (lo : Nat) (X I : Addr) (L₀ : Lg) (hs : Heap) (Ls : Lg) (x : It) (S : St) (acc : List D) (h : Heap) (L : Lg) : Prop where
  ci : CI W n A fs nm cs env h₀ lo S X acc h L₀ L
  it : ItAt h L I x
  more : More hs Ls L
  kf : KpF I hs h
section
variable {hs : Heap} {Ls : Lg} {x x' : It}
theorem ItAt.alive (i : ItAt h L I x) : h.get? I ≠ none := fun q => by
  obtain ⟨o, fv, ho, _⟩ := i.fields
  rw [ho] at q
  exact no_some q.symm
theorem KpF.fresh (kf : KpF I hs h) (hI : h.get? I ≠ none) {add : Led} (ha : ∀ p ∈ add, h.get? p.1 = none) : ∀ p ∈ add, hs.get? p.1 = none := fun p hp => by
  by_cases q : p.1 = I
  · exact absurd (q ▸ ha p hp) hI
  · exact kf.2 _ q (ha p hp)
theorem Mid.arr (m : Mid W n A fs nm cs env h₀ lo X I L₀ hs Ls x S acc h L) (a : Arr W n A fs h L h' L') : Mid W n A fs nm cs env h₀ lo X I L₀ hs Ls x S acc h' L' := by
  refine ⟨m.ci.arr a, m.it.keep (a.kp.toS m.ci.pre.hi.stk) a.le, ?_, m.kf.trans (.of_A (a.kp.toA m.ci.pre.hi.stk))⟩
  obtain ⟨add, rfl, ha⟩ := a.more
  obtain ⟨add', rfl, ha'⟩ := m.more
  refine ⟨add ++ add', by simp, fun p hp => ?_⟩
  rcases List.mem_append.mp hp with hp | hp
  · exact m.kf.fresh m.it.alive ha p hp
  · exact ha' p hp
theorem Mid.push (m : Mid W n A fs nm cs env h₀ lo X I L₀ hs Ls x S acc s.heap L) (hXI : X ≠ I) {d : D} {v : Value} {Q : Value → Shared → Prop} (R : Rep L v d) (hz : acc.length ≤ 100000)
    (q : ∀ h', Mid W n A fs nm cs env h₀ lo X I L₀ hs Ls x S (acc ++ [d]) h' L → Q .none { s with heap := h' }) : wpAny W.M A (call (.builtin "list.append") [.ref X, v]) Q NoE s := by
  refine CI.push (I := X) m.ci R hz fun h5 C5 kf5 => q h5 ⟨C5, ?_, m.more, m.kf.trans ⟨fun b o fv hb e' d' => ?_, fun b hb e' => ?_⟩⟩
  · obtain ⟨o, fv, ho, hd⟩ := m.it.fields
    exact m.it.same ((kf5.1 I o fv (Ne.symm hXI) ho hd).trans ho.symm)
  · by_cases hbX : b = X
    · obtain ⟨vs, c, e'', _⟩ := m.ci.acc
      rw [hbX, e''] at e'
      rw [← Option.some.inj e'] at d'
      exact Data.noConfusion d'
    · exact kf5.1 b o fv hbX e' d'
  · by_cases hbX : b = X
    · rw [hbX] at e'; exact absurd e' C5.alive
    · exact kf5.2 b hbX e'
theorem Mid.deep {I2 : Addr} {L6 : Lg} {h4 h5 h6 : Heap} {L4 : Lg} {acc6 : List D} (m : Mid W n A fs nm cs env h₀ lo X I L₀ hs Ls x S acc h4 L4) (a5 : Arr W n A fs h4 L4 h5 L4) (hn2 : h4.get? I2 = none) (C6 : CI W n A fs nm cs env h₀ lo S X acc6 h6 L₀ L6) (m6 : More h5 L4 L6) (kf6 : KpF I2 h5 h6) : Mid W n A fs nm cs env h₀ lo X I L₀ hs Ls x S acc6 h6 L6 := by
  have hII : I2 ≠ I := fun z => by rw [z] at hn2; exact m.it.alive hn2
  have m5 := m.arr a5
  have kS := a5.kp.toS m.ci.pre.hi.stk
  refine ⟨C6, ?_, ?_, m.kf.trans ⟨fun b o fv hb e' d' => ?_, fun b hb e' => ?_⟩⟩
  · obtain ⟨o, fv, ho, hd⟩ := m5.it.fields
    exact (m5.it.same ((kf6.1 I o fv (Ne.symm hII) ho hd).trans ho.symm)).mono m6.le
  · obtain ⟨add, rfl, ha⟩ := m6
    obtain ⟨add', rfl, ha'⟩ := m.more
    refine ⟨add ++ add', by simp, fun p hp => ?_⟩
    rcases List.mem_append.mp hp with hp | hp
    · exact m.kf.fresh m.it.alive (fun p hp => a5.kp.none (ha p hp)) p hp
    · exact ha' p hp
  · have hb2 : b ≠ I2 := fun z => by rw [z, hn2] at e'; exact no_some e'
    exact kf6.1 b o fv hb2 (kS.1 b o fv e' d') d'
  · by_cases hb2 : b = I2
    · rw [hb2]; exact hn2
    · exact a5.kp.none (kf6.2 b hb2 e')
end
/-- a loop's goal -/
def LoopG (W : Wd) (n : Nat) (A : Around) (fs : List Addr) (nm : List (Str × NameKind)) (cs : List Str) (env : Env) (h₀ : Heap) (lo : Nat) (X : Addr) (L₀ : Lg) (elt : PySem.Expr) (gens : List Comprehension) (scope : Scope) (pos : Pos) (k : Nat) : Prop :=
  ∀ (depth : Nat) (gs : List Comprehension) (x : It) (S : St) (acc acc' : List D) (I : Addr) (s : Shared) (L : Lg) (R : Result → Shared → Prop),
    gens.drop depth = gs → ClR W n nm cs elt k gs x S acc acc' → CI W n A fs nm cs env h₀ lo S X acc s.heap L₀ L → ItAt s.heap L I x → (∀ p ∈ L.led, p.1 ≠ I) → X ≠ I → h₀.get? I = none →
    (∀ h' tk L', CI W n A fs nm cs env h₀ lo S X acc' h' L₀ L' → More s.heap L L' → KpF I s.heap h' → R (.ok .next) { s with heap := h', toks := tk }) →
    codeAny W.M A (.compLoop (.ListComp elt gens scope pos) depth (.ref I) (.ref X) env) R s
theorem loop_again {elt : PySem.Expr} {gens : List Comprehension} {scope : Scope} {pos : Pos} {k depth : Nat} {g : Comprehension} {gs : List Comprehension} {x' : It} {S S1 : St} {acc acc' : List D} {R : Result → Shared → Prop} {h4 : Heap} {t4 : Nat} {L4 : Lg} (ih : LoopG W n A fs nm cs env h₀ lo X L₀ elt gens scope pos k) (hgs : gens.drop depth = g :: gs)
    (e4 : ClR W n nm cs elt k (g :: gs) x' S acc acc') (m : Mid W n A fs nm cs env h₀ lo X I L₀ s.heap L x' S1 acc h4 L4) (hb3 : ∀ p ∈ S.vars, p ∈ S1.vars) (hb2 : S1.own = S.own) (hI : ∀ p ∈ L.led, p.1 ≠ I) (hIa : s.heap.get? I ≠ none) (hXI : X ≠ I) (hn : h₀.get? I = none)
    (q : ∀ h' tk L', CI W n A fs nm cs env h₀ lo S X acc' h' L₀ L' → More s.heap L L' → KpF I s.heap h' → R (.ok .next) { s with heap := h', toks := tk }) :
    codeAny W.M A (.compLoop (.ListComp elt gens scope pos) depth (.ref I) (.ref X) env) R { s with heap := h4, toks := t4 } := by
  refine ih depth (g :: gs) x' S acc acc' I { s with heap := h4, toks := t4 } L4 R hgs e4 (m.ci.weak hb3 hb2.symm) m.it ?_ hXI hn fun h5 t5 L5 C5 m5 kf5 => q h5 t5 L5 C5 ?_ (m.kf.trans kf5)
  · obtain ⟨add, e, ha⟩ := m.more
    intro p hp z
    rw [e] at hp
    rcases List.mem_append.mp hp with hp | hp
    · have := ha p hp
      rw [z] at this
      exact hIa this
    · exact hI p hp z
  · obtain ⟨add, rfl, ha⟩ := m5
    obtain ⟨add', e, ha'⟩ := m.more
    refine ⟨add ++ add', by rw [e]; simp, fun p hp => ?_⟩
    rcases List.mem_append.mp hp with hp | hp
    · exact m.kf.fresh m.it.alive ha p hp
    · exact ha' p hp
theorem comp_loop [Quiet W] {elt : PySem.Expr} {gens : List Comprehension} {scope : Scope} {pos : Pos} (hga : ∀ g ∈ gens, g.is_async = 0 ∧ ∀ env x, foldedSetIterable g.iter env x = pure x) : ∀ (k : Nat), LoopG W n A fs nm cs env h₀ lo X L₀ elt gens scope pos k := by
  intro k
  induction k with
  | zero => exact fun depth gs x S acc acc' I s L R _ e => e.elim
  | succ k ih =>
    intro depth gs x S acc acc' I s L R hgs e C i hI hXI hn q
    cases gs with
    | nil => exact e.elim
    | cons g gs =>
      have hg : gens[depth]? = some g := by
        have := congrArg (fun z => z[0]?) hgs
        simpa using this
      have hg1 : gens[depth + 1]? = gs[0]? := by
        have := congrArg (fun z => z[1]?) hgs
        simpa using this
      obtain ⟨ha, hfold⟩ := hga g (List.mem_of_getElem? hg)
      refine codeAny_of_tree ?_
      show wpAny _ A ((compTurn (.ListComp elt gens scope pos) depth (.ref I) (.ref X) env).onRaise (fun x => do noteFrame x env; theTreesLotGoes x)) _ _ s
      refine wpAny_noted ?_
      unfold compTurn
      dsimp only
      rw [hg]
      dsimp only
      rw [ha]
      simp only [bne_self_eq_false, Bool.false_eq_true, if_false]
      refine wpAny_bind (wpAny_standAt ?_)
      refine wpAny_bind (anyE (it_next C.pre i hI hn (fun d x' e' v h1 t1 i1 R1 he1 P1 => ?_) fun e' h1 he1 P1 => ?_))
      · rcases e with ⟨z, _⟩ | ⟨d', y, S1, b, acc1, z, hbd, ht, e4, br⟩
        · exact no_some (z.symm.trans e')
        · obtain ⟨rfl, rfl⟩ := Prod.mk.inj (Option.some.inj (z.symm.trans e'))
          obtain ⟨hb1, hb2, hb3⟩ := bindF_vars hbd
          refine wpAny_bind (anyE (go_ok hb1 i1 ?_))
          refine wpAny_bind (anyE (assign_ok P1 R1 hb1 fun h2 t2 P2 k2 => ?_))
          have m2 : Mid W n A fs nm cs env h₀ lo X I L₀ s.heap L y S1 acc h2 L := ⟨(C.move P1 he1 hXI).bind P2 k2, i1.keep k2.toS (.refl _), .refl, (KpF.of_ext he1).trans (.of_A k2)⟩
          refine wpAny_bind (anyE (tests_ok (s := { s with heap := h2, toks := t2 }) ht P2 fun h3 t3 L3 a3 => ?_))
          have m3 := m2.arr a3
          cases b with
          | false =>
            rw [if_neg Bool.false_ne_true]
            rw [show acc1 = acc from br] at e4
            exact wpAny_pure ⟨rfl, loop_again (s := s) (L := L) ih hgs e4 m3 hb3 hb2 hI i.alive hXI hn q⟩
          | true =>
            rw [if_pos rfl]
            cases gs with
            | nil =>
              obtain ⟨d2, hel, hz, rfl⟩ := br
              rw [show gens[depth + 1]? = none from hg1]
              refine wpAny_bind (wpAny_bind (anyE (hel A fs env h₀ lo { s with heap := h3, toks := t3 } L3 _ m3.ci.pre fun v4 h4 t4 L4 a4 R4 => ?_)))
              refine wpAny_bind (anyE ((m3.arr a4).push (s := { s with heap := h4, toks := t4 }) hXI R4 hz fun h5 m5 => ?_))
              exact wpAny_pure (wpAny_pure ⟨rfl, loop_again (s := s) (L := L) ih hgs e4 m5 hb3 hb2 hI i.alive hXI hn q⟩)
            | cons g' gs' =>
              obtain ⟨di, xi, hev, hit, hcl⟩ := br
              have hg2 : gens[depth + 1]? = some g' := hg1
              obtain ⟨ha', hfold'⟩ := hga g' (List.mem_of_getElem? hg2)
              rw [hg2]
              dsimp only
              rw [ha']
              simp only [bne_self_eq_false, Bool.false_eq_true, if_false]
              refine wpAny_bind (anyE (hev A fs env h₀ lo { s with heap := h3, toks := t3 } L3 _ m3.ci.pre fun v4 h4 t4 L4 a4 R4 => ?_))
              have m4 := m3.arr a4
              refine wpAny_bind (wpAny_standAt (wpAny_bind (wpAny_of_eq (hfold' env v4) ?_)))
              refine wpAny_bind (wpAny_holding (anyE (it_new (s := { s with heap := h4, toks := t4 }) m4.ci.pre R4 hit fun I2 h5 i5 a5 hn2 => ?_)))
              refine wpAny_bind (wpAny_runOwn (start_list (s := { s with heap := h5, toks := t4 }) hg2 ha' i5 ?_))
              refine ih (depth + 1) (g' :: gs') xi S1 acc acc1 I2 { s with heap := h5, toks := t4 } L4 _ (by rw [← List.tail_drop, hgs]; rfl) hcl (m4.ci.arr a5) i5 (fun p hp z => ?_) (fun z => ?_) (m4.ci.pre.keep.none hn2) fun h6 t6 L6 C6 m6 kf6 => ?_
              · have := (m4.ci.pre.hi.led p hp).1
                rw [z] at this
                exact no_some ((show h4.get? I2 = none from hn2).symm.trans this)
              · rw [← z] at hn2; exact m4.ci.alive hn2
              · exact wpAny_pure ⟨rfl, loop_again (s := s) (L := L) ih hgs e4 (m4.deep a5 hn2 C6 m6 kf6) hb3 hb2 hI i.alive hXI hn q⟩
      · rcases e with ⟨_, rfl⟩ | ⟨d', y, S1, b, acc1, z, _⟩
        · exact wpAny_pure (q h1 s.toks L (C.move P1 he1 hXI) .refl (.of_ext he1))
        · exact no_some (e'.symm.trans z)
end
end
section
open PySem PySem.W PyProof.Rows PySem.Spec PySem.Calls
set_option maxRecDepth 100000
set_option maxHeartbeats 1000000
/-- the cells that a comprehension's frame closes over -/
def closeL (cells : List (Str × Addr)) : List (Str × NameKind) → List (Str × Addr) → List (Str × Addr)
  | [], acc => acc
  | p :: r, acc => if p.2 == .free then closeL cells r ((p.1, (cells.lookup p.1).getD 0) :: acc) else closeL cells r acc
theorem closure_eq {scope : Scope} {env : Env} (h : ∀ p ∈ scope.names, p.2 = .free → (env.cells.lookup p.1).isSome = true) : closureFor scope env = pure (closeL env.cells scope.names []) := by
  unfold closureFor
  have key : ∀ (names : List (Str × NameKind)) (acc : List (Str × Addr)), (∀ p ∈ names, p.2 = .free → (env.cells.lookup p.1).isSome = true) →
      (forIn names acc (fun (x : Str × NameKind) (r : List (Str × Addr)) => (match x with | (name, kind) => if (kind == NameKind.free) = true then (do let a ← cellOf env name; pure (ForInStep.yield ((name, a) :: r))) else pure (ForInStep.yield r) : Sem (ForInStep (List (Str × Addr))))) : Sem _) = pure (closeL env.cells names acc) := by
    intro names
    induction names with
    | nil => intro acc _; rfl
    | cons p r ih =>
      intro acc hp
      obtain ⟨x, k⟩ := p
      rw [List.forIn_cons]
      unfold closeL
      cases hk : k == NameKind.free with
      | true =>
        have hs := hp (x, k) (.head _) (eq_of_beq hk)
        obtain ⟨c, hc⟩ := Option.isSome_iff_exists.mp hs
        dsimp only at hc ⊢
        rw [hk]
        simp only [if_true]
        have : cellOf env x = pure c := by unfold cellOf; rw [hc]
        rw [this, hc]
        exact ih _ fun q hq => hp q (.tail _ hq)
      | false =>
        dsimp only
        rw [hk]
        simp only [Bool.false_eq_true, if_false]
        exact ih _ fun q hq => hp q (.tail _ hq)
  have e := key scope.names [] h
  first
    | exact (congrArg (fun t => t >>= fun cs => pure cs) e)
    | (refine Eq.trans ?_ e; rfl)
    | (simp only [e]; rfl)
    | (rw [show (forIn scope.names [] _ : Sem _) = _ from e]; rfl)
theorem closeL_sub {cells : List (Str × Addr)} : ∀ (names : List (Str × NameKind)) (acc : List (Str × Addr)), (∀ p ∈ names, p.2 = .free → (cells.lookup p.1).isSome = true) → (∀ x c, acc.lookup x = some c → cells.lookup x = some c) →
    ∀ x c, (closeL cells names acc).lookup x = some c → cells.lookup x = some c := by
  intro names
  induction names with
  | nil => intro acc _ h; exact h
  | cons p r ih =>
    intro acc hp h
    unfold closeL
    split
    · rename_i hk
      refine ih _ (fun q hq => hp q (.tail _ hq)) fun x c e => ?_
      rw [List.lookup_cons] at e
      split at e
      · rename_i hx
        have hx := eq_of_beq hx
        subst hx
        obtain ⟨c', hc'⟩ := Option.isSome_iff_exists.mp (hp p (.head _) (eq_of_beq hk))
        rw [hc'] at e ⊢
        exact e
      · exact h x c e
    · exact ih _ (fun q hq => hp q (.tail _ hq)) h
theorem closeL_has {cells : List (Str × Addr)} : ∀ (names : List (Str × NameKind)) (acc : List (Str × Addr)) (x : Str), ((x, .free) ∈ names ∨ (acc.lookup x).isSome = true) → ((closeL cells names acc).lookup x).isSome = true := by
  intro names
  induction names with
  | nil => intro acc x h; exact h.elim (fun q => nomatch q) id
  | cons p r ih =>
    intro acc x h
    unfold closeL
    split
    · rename_i hk
      refine ih _ x ?_
      by_cases hx : (x == p.1) = true
      · exact .inr (by rw [List.lookup_cons, hx]; rfl)
      · rcases h with h | h
        · rcases List.mem_cons.mp h with e | h
          · rw [← e] at hx; simp at hx
          · exact .inl h
        · refine .inr ?_
          rw [List.lookup_cons]
          simp only [hx]
          exact h
    · rename_i hk
      refine ih _ x (h.imp (fun h => ?_) id)
      rcases List.mem_cons.mp h with e | h
      · rw [← e] at hk; exact (hk rfl).elim
      · exact h
theorem cells_facts : ∀ (names : List (Str × NameKind)) (h : Heap) (acc : List (Str × Addr)) (lo : Nat), lo ≤ h.objs.size → (∀ x c, acc.lookup x = some c → @LT.lt Nat instLTNat c h.objs.size) → (∀ x y c, acc.lookup x = some c → acc.lookup y = some c → x = y) →
    (∀ x y c, (cellsFrom h.objs.size names acc).lookup x = some c → (cellsFrom h.objs.size names acc).lookup y = some c → x = y) ∧
    (∀ x, ((x, NameKind.cell) ∈ names ∨ ∃ c, acc.lookup x = some c ∧ @LE.le Nat instLENat lo c ∧ h.IsCell c none) → ∃ c, (cellsFrom h.objs.size names acc).lookup x = some c ∧ @LE.le Nat instLENat lo c ∧ (pushCells h names).IsCell c none) ∧
    (∀ x, (x, NameKind.cell) ∉ names → (cellsFrom h.objs.size names acc).lookup x = acc.lookup x) := by
  intro names
  induction names with
  | nil =>
    intro h acc lo hlo h1 h2
    refine ⟨h2, fun x hx => ?_, fun x _ => rfl⟩
    rcases hx with hx | ⟨c, e1, e2, e3⟩
    · cases hx
    · exact ⟨c, e1, e2, e3⟩
  | cons p r ih =>
    intro h acc lo hlo h1 h2
    obtain ⟨z, k⟩ := p
    unfold cellsFrom pushCells
    cases hk : k == NameKind.cell with
    | true =>
      simp only [if_true]
      have hk := eq_of_beq hk
      subst hk
      have hsz : (h.push { cls := .type "cell", data := .cell none }).objs.size = h.objs.size + 1 := Heap.size_push ..
      have key := ih (h.push { cls := .type "cell", data := .cell none }) ((z, h.objs.size) :: acc) lo (by rw [hsz]; omega) (fun x c e => ?_) (fun x y c e1 e2 => ?_)
      · rw [hsz] at key
        refine ⟨key.1, fun x hx => key.2.1 x ?_, fun x hx => ?_⟩
        · by_cases hxz : (x == z) = true
          · refine .inr ⟨h.objs.size, by rw [List.lookup_cons, hxz], hlo, _, Heap.get?_push_size _ rfl, rfl⟩
          · rcases hx with hx | ⟨c, e1, e2, o, e3, e4⟩
            · rcases List.mem_cons.mp hx with e | hx
              · cases e; simp at hxz
              · exact .inl hx
            · refine .inr ⟨c, ?_, e2, o, Heap.get?_push_of_some _ e3, e4⟩
              rw [List.lookup_cons]; simp only [hxz]; exact e1
        · rw [key.2.2 x fun q => hx (.tail _ q), List.lookup_cons]
          have : (x == z) = false := by
            rw [beq_eq_false_iff_ne]
            rintro rfl
            exact hx (.head _)
          simp only [this]
      · rw [List.lookup_cons] at e
        rw [hsz]
        split at e
        · cases e; exact Nat.lt_succ_self _
        · exact Nat.lt_succ_of_lt (h1 x c e)
      · rw [List.lookup_cons] at e1 e2
        split at e1 <;> split at e2
        · rename_i _ q1 _ q2; exact (eq_of_beq q1).trans (eq_of_beq q2).symm
        · cases e1; exact absurd (h1 y _ e2) (Nat.lt_irrefl _)
        · cases e2; exact absurd (h1 x _ e1) (Nat.lt_irrefl _)
        · exact h2 x y c e1 e2
    | false =>
      simp only [Bool.false_eq_true, if_false]
      have hk' : k ≠ .cell := by simpa using hk
      have key := ih h acc lo hlo h1 h2
      refine ⟨key.1, fun x hx => key.2.1 x (hx.imp (fun hx => ?_) id), fun x hx => key.2.2 x fun q => hx (.tail _ q)⟩
      rcases List.mem_cons.mp hx with e | hx
      · cases e; exact (hk' rfl).elim
      · exact hx
def relN (scope : Scope) (nm : List (Str × NameKind)) : List (Str × NameKind) := scope.names.map fun p => if (p.2 == .free && nm.lookup p.1 == some .cell) = true then (p.1, .cell) else p
def capt (scope : Scope) (S : St) : St := ⟨S.vars.filter (fun p => scope.names.lookup p.1 == some .free), S.own⟩
def ownC (scope : Scope) : List Str := (scope.names.filter fun p => p.2 == .cell).map (·.1)
def compOk (scope : Scope) (nm : List (Str × NameKind)) (S : St) : Bool :=
  decide (scope.kind = .function) && scope.names.all (fun p => p.2 != .local || scope.names.lookup p.1 == some .local) && scope.names.all (fun p => p.2 != .cell || scope.names.lookup p.1 == some .cell) &&
  scope.names.all fun p => p.2 != .free || (scope.names.lookup p.1 == some .free && (getL p.1 S.vars).isSome && (nm.lookup p.1 == some .cell || nm.lookup p.1 == some .free))
theorem relN_lookup {scope : Scope} {nm : List (Str × NameKind)} {x : Str} {k : NameKind} (h : scope.names.lookup x = some k) : (relN scope nm).lookup x = some (if (k == .free && nm.lookup x == some .cell) = true then .cell else k) := by
  unfold relN
  generalize scope.names = l at h
  induction l with
  | nil => cases h
  | cons p r ih =>
    rw [List.lookup_cons] at h
    rw [List.map_cons, List.lookup_cons]
    have hp : (if (p.2 == NameKind.free && nm.lookup p.1 == some NameKind.cell) = true then (p.1, NameKind.cell) else p).1 = p.1 := by split <;> rfl
    rw [hp]
    split at h
    · rename_i hx
      try rw [hx]
      cases h
      rw [eq_of_beq hx]
      split <;> rfl
    · rename_i hx
      try rw [hx]
      exact ih h
theorem relabel_eq {scope : Scope} {env : Env} {nm : List (Str × NameKind)} (h1 : env.scope.names = nm) (h2 : env.scope.kind = .function) : (relabel scope env).names = relN scope nm := by
  unfold relabel relN
  dsimp only
  refine List.map_congr_left fun p _ => ?_
  obtain ⟨x, k⟩ := p
  unfold Env.kindOf
  rw [h1, h2]
  simp
end
section
open PySem PySem.W PyProof.Rows PySem.Spec PySem.Calls
set_option maxRecDepth 100000
set_option maxHeartbeats 1000000
section
variable {W : Wd} {n : Nat} {A : Around} {fs : List Addr} {nm : List (Str × NameKind)} {cs : List Str} {env : Env} {h₀ h h' b₀ : Heap} {lo : Nat} {S S' S₁ S₂ : St} {L L' L₀ : Lg} {s : Shared} {F : Flo}
theorem compOk_free {scope : Scope} (hc : compOk scope nm S = true) {x : Str} (hx : (x, NameKind.free) ∈ scope.names) : scope.names.lookup x = some .free ∧ (∃ d, getL x S.vars = some d) ∧ (nm.lookup x = some .cell ∨ nm.lookup x = some .free) := by
  unfold compOk at hc
  rw [Bool.and_eq_true, Bool.and_eq_true, Bool.and_eq_true] at hc
  have := List.all_eq_true.mp hc.2 _ hx
  simp only [bne_self_eq_false, Bool.false_or, Bool.and_eq_true, Bool.or_eq_true] at this
  obtain ⟨⟨h1, h2⟩, h3⟩ := this
  exact ⟨eq_of_beq h1, Option.isSome_iff_exists.mp h2, h3.imp eq_of_beq eq_of_beq⟩
theorem compOk_cell {scope : Scope} (hc : compOk scope nm S = true) {x : Str} (hx : (x, NameKind.cell) ∈ scope.names) : scope.names.lookup x = some .cell := by
  unfold compOk at hc
  rw [Bool.and_eq_true, Bool.and_eq_true, Bool.and_eq_true] at hc
  have := List.all_eq_true.mp hc.1.2 _ hx
  simp only [bne_self_eq_false, Bool.false_or] at this
  exact eq_of_beq this
theorem compOk_local {scope : Scope} (hc : compOk scope nm S = true) : ∀ x ∈ scope.names, x.2 = .local → scope.names.lookup x.1 = some .local := by
  intro p hx e
  unfold compOk at hc
  rw [Bool.and_eq_true, Bool.and_eq_true, Bool.and_eq_true] at hc
  have := List.all_eq_true.mp hc.1.1.2 _ hx
  rw [e] at this
  simp only [bne_self_eq_false, Bool.false_or] at this
  exact eq_of_beq this
theorem compOk_kind {scope : Scope} (hc : compOk scope nm S = true) : scope.kind = .function := by
  unfold compOk at hc
  rw [Bool.and_eq_true, Bool.and_eq_true, Bool.and_eq_true] at hc
  exact of_decide_eq_true hc.1.1.1
theorem mem_lookup {α : Type} {x : Str} {k : α} {l : List (Str × α)} (h : l.lookup x = some k) : (x, k) ∈ l := mem_of_lookup h
/-- a captured name's cell -/
theorem var_cell (P : Pre W n A fs nm cs env h₀ lo S h L) {x : Str} (hx : ∃ d, getL x S.vars = some d) (hk : nm.lookup x = some .cell ∨ nm.lookup x = some .free) : ∃ c o v, env.cells.lookup x = some c ∧ h.get? c = some o ∧ o.data = .cell (some v) := by
  obtain ⟨d, hd⟩ := hx
  obtain ⟨v, V, _⟩ := P.vars _ (getL_mem hd)
  rcases V with ⟨hl, _⟩ | ⟨_, c, o, h1, h2, h3⟩
  · have : nm.lookup x = some .local := by rw [← P.names]; exact hl
    rcases hk with hk | hk <;> (rw [hk] at this; cases this)
  · exact ⟨c, o, v, h1, h2, h3⟩
def compCells (scope : Scope) (env : Env) (h : Heap) : List (Str × Addr) := cellsFrom (h.objs.size + 1) scope.names (closeL env.cells scope.names [])
def compEnv' (scope : Scope) (env : Env) (h : Heap) : Env := newEnv scope h.objs.size env.globals (compCells scope env h) env.qual none .none (some env) builtinsNs
def compHeap (scope : Scope) (h : Heap) : Heap := pushCells (h.push { cls := .type "dict", data := .dict #[] }) scope.names
theorem comp_frame {scope : Scope} (hc : compOk scope nm S = true) (P₀ : Pre W n A fs nm cs env h₀ lo S b₀ L₀) (a : Arr W n A fs b₀ L₀ h L) :
    Pre W n A fs (relN scope nm) (ownC scope) { compEnv' scope env h with scope := relabel scope env } b₀ S.own.length (capt scope S) (compHeap scope h) L ∧ (∀ b o, h.get? b = some o → (compHeap scope h).get? b = some o) := by
  have P := P₀.arr a
  have keep : ∀ b o, h.get? b = some o → (compHeap scope h).get? b = some o := fun b o e => pushCells_keeps _ _ b o (Heap.get?_push_of_some _ e)
  have hsz : (h.push { cls := .type "dict", data := .dict #[] }).objs.size = h.objs.size + 1 := Heap.size_push ..
  have hfree : ∀ p ∈ scope.names, p.2 = .free → (env.cells.lookup p.1).isSome = true := fun p hp e => by
    obtain ⟨x, k⟩ := p
    cases e
    obtain ⟨_, h2, h3⟩ := compOk_free hc hp
    obtain ⟨c, o, v, h4, _⟩ := var_cell P h2 h3
    rw [h4]; rfl
  have hsub := closeL_sub (cells := env.cells) scope.names [] hfree (fun _ _ e => nomatch e)
  -- a closed cell stands in the heap
  have hfree2 : ∀ x c, (closeL env.cells scope.names []).lookup x = some c → (x, NameKind.free) ∈ scope.names := by
    have key : ∀ (names : List (Str × NameKind)) (acc : List (Str × Addr)) (x : Str) (c : Addr), (closeL env.cells names acc).lookup x = some c → (x, NameKind.free) ∈ names ∨ (acc.lookup x).isSome = true := by
      intro names
      induction names with
      | nil => intro acc x c e; exact .inr (by rw [show acc.lookup x = some c from e]; rfl)
      | cons p r ih =>
        intro acc x c e
        unfold closeL at e
        split at e
        · rename_i hk
          rcases ih _ x c e with q | q
          · exact .inl (.tail _ q)
          · rw [List.lookup_cons] at q
            split at q
            · rename_i hx
              refine .inl ?_
              rw [eq_of_beq hx, ← eq_of_beq hk]
              exact .head _
            · exact .inr q
        · rcases ih _ x c e with q | q
          · exact .inl (.tail _ q)
          · exact .inr q
    intro x c e
    rcases key _ _ x c e with q | q
    · exact q
    · cases q
  have hlive : ∀ x c, (closeL env.cells scope.names []).lookup x = some c → ∃ o v, h.get? c = some o ∧ o.data = .cell (some v) := fun x c e => by
    obtain ⟨_, h2, h3⟩ := compOk_free hc (hfree2 x c e)
    obtain ⟨c', o, v, h4, h5, h6⟩ := var_cell P h2 h3
    rw [hsub x c e] at h4
    cases h4
    exact ⟨o, v, h5, h6⟩
  have F := cells_facts scope.names (h.push { cls := .type "dict", data := .dict #[] }) (closeL env.cells scope.names []) (h.objs.size + 1) (by rw [hsz]; exact Nat.le_refl _)
    (fun x c e => by obtain ⟨o, v, h1, _⟩ := hlive x c e; rw [hsz]; exact Nat.lt_succ_of_lt (Heap.lt_size h1)) (fun x y c e1 e2 => P.cinj x y c (hsub x c e1) (hsub y c e2))
  rw [hsz] at F
  obtain ⟨F1, F2, F3⟩ := F
  have fresh : ∀ c, @LE.le Nat instLENat h.objs.size c → b₀.get? c = none := fun c hcn => a.kp.none (Heap.get?_none_of_le hcn)
  have hnL : b₀.get? h.objs.size = none := fresh _ (Nat.le_refl _)
  have ar : Arr W n A fs b₀ L₀ (compHeap scope h) L := a.trans (.of_kp P.hi (.of_keep keep))
  have Pk := P.arr (Arr.of_kp P.hi (.of_keep keep))
  have hcells : ∀ x, scope.names.lookup x = some .free → (compCells scope env h).lookup x = (closeL env.cells scope.names []).lookup x := fun x hx => F3 x fun q => by
    have := compOk_cell hc q
    rw [hx] at this
    cases this
  refine ⟨⟨ar.hi, relabel_eq P.names P.envk, ?_, P.envg, P.envb, ar.kp, ⟨_, (Heap.Ns.new h (.type "dict")).keeps (pushCells_keeps _ _)⟩, hnL, ?_, fun b hb => ?_, fun x hx => ?_, F1, fun p hp => ?_, ?_⟩, keep⟩
  · show (relabel scope env).kind = .function
    show scope.kind = .function
    exact compOk_kind hc
  · intro q
    obtain ⟨vs, c, e⟩ := own_off P q
    have := Heap.lt_size e
    exact Nat.lt_irrefl _ this
  · cases e : W.base.get? b with
    | none => rfl
    | some o =>
      rw [P₀.hi.base _ _ e] at hb
      cases hb
  · obtain ⟨p, hp, rfl⟩ := List.mem_map.mp hx
    obtain ⟨hp1, hp2⟩ := List.mem_filter.mp hp
    obtain ⟨c, h1, h2, o, h3, h4⟩ := F2 p.1 (.inl (by rw [← eq_of_beq hp2]; exact hp1))
    exact ⟨c, o, none, h1, fresh c (Nat.le_of_succ_le h2), h3, h4⟩
  · obtain ⟨hp1, hp2⟩ := List.mem_filter.mp hp
    have hp2 := eq_of_beq hp2
    obtain ⟨v, V, R⟩ := Pk.vars p hp1
    refine ⟨v, ?_, R⟩
    obtain ⟨hq1, hq2, hq3⟩ := compOk_free hc (mem_lookup hp2)
    rcases V with ⟨hl, _⟩ | ⟨_, c, o, h1, h2, h3⟩
    · have : nm.lookup p.1 = some .local := by rw [← P.names]; exact hl
      rcases hq3 with hq3 | hq3 <;> (rw [hq3] at this; cases this)
    · refine .inr ⟨?_, c, o, ?_, h2, h3⟩
      · have := relN_lookup (nm := nm) hp2
        unfold Env.kindOf
        show (relabel scope env).names.lookup p.1 = _ ∨ (relabel scope env).names.lookup p.1 = _
        rw [relabel_eq P.names P.envk, this]
        split
        · exact .inl rfl
        · exact .inr rfl
      · show (compCells scope env h).lookup p.1 = some c
        rw [hcells _ hp2]
        have := closeL_has (cells := env.cells) scope.names [] p.1 (.inl (mem_lookup hp2))
        obtain ⟨c', hc'⟩ := Option.isSome_iff_exists.mp this
        rw [hc']
        rw [← h1, ← hsub _ _ hc']
  · refine ⟨P.owns.len, P.owns.nodup, fun k b e hk => ?_, Pk.owns.offs, Pk.owns.each⟩
    have := (List.getElem?_eq_some_iff.mp e).1
    rw [P.owns.len] at this
    exact absurd hk (Nat.not_le.mpr this)
theorem comp_env {scope : Scope} {Q : Env → Shared → Prop} (hk : scope.kind = .function)
    (q : Q (compEnv' scope env s.heap) { s with heap := compHeap scope s.heap }) : wpAny W.M A (newFunctionEnv scope env.globals (closeL env.cells scope.names []) [] env.qual none .none (some env)) Q NoE s := by
  simp only [newFunctionEnv, Option.isSome_some, if_true]
  refine wpAny_bind (wpAny_alloc ?_)
  refine wpAny_bind (wpAny_layCells _ (fun name kind cells => by cases hkc : kind == NameKind.cell <;> simp [hkc]) _ _ _ _ ?_)
  rw [show ({ s with heap := s.heap.push { cls := .type "dict", data := .dict #[] } } : Shared).heap.objs.size = s.heap.objs.size + 1 from Heap.size_push ..]
  rw [List.forIn_nil]
  exact wpAny_bind (wpAny_pure (wpAny_pure q))
theorem compOk_async {g : Comprehension} {gs : List Comprehension} (hg : (g :: gs).all (fun g => g.is_async == 0) = true) : firstAsync (g :: gs) = false ∧ ∀ g' ∈ g :: gs, g'.is_async = 0 := by
  have hga : ∀ g' ∈ g :: gs, g'.is_async = 0 := fun g' hg' => eq_of_beq (List.all_eq_true.mp hg g' hg')
  refine ⟨?_, hga⟩
  have h0 := hga g (.head _)
  cases g
  dsimp only at h0
  subst h0
  rfl
theorem comp_free {scope : Scope} (hc : compOk scope nm S = true) (P : Pre W n A fs nm cs env h₀ lo S h L) : ∀ p ∈ scope.names, p.2 = .free → (env.cells.lookup p.1).isSome = true := fun p hp z => by
  obtain ⟨y, kd⟩ := p
  cases z
  obtain ⟨_, h2, h3⟩ := compOk_free hc hp
  obtain ⟨c, o, v, h4, _⟩ := var_cell P h2 h3
  rw [h4]; rfl
/-- a comprehension's worth -/
structure CmR (W : Wd) (n : Nat) (nm : List (Str × NameKind)) (cs : List Str) (elt : PySem.Expr) (gens : List Comprehension) (scope : Scope) (S : St) (ds : List D) : Prop where
  run : ∃ g gs di x k, gens = g :: gs ∧ EvD W n nm cs S g.iter di ∧ iterP di = some x ∧ compOk scope nm S = true ∧ ClR W n (relN scope nm) (ownC scope) elt k (g :: gs) x (capt scope S) [] ds
  tame : gens.all (fun g => g.is_async == 0) = true
  fold : ∀ g ∈ gens, ∀ env x, foldedSetIterable g.iter env x = pure x
theorem comp_core [Quiet W] {elt : PySem.Expr} {gens : List Comprehension} {scope : Scope} {ds : List D} {pos p' : Pos} {use : Option (Value → Sem Unit)} {Q : Value → Shared → Prop}
    (c : CmR W n nm cs elt gens scope S ds) (P : Pre W n A fs nm cs env h₀ lo S s.heap L)
    (q : ∀ X C h2 t2 L2 m, Arr W n A fs s.heap L h2 L2 → Rep L2 (.ref X) (.list ds) → s.heap.get? X = none → s.heap.get? C = none → C ≠ X → h2.Ns C m → (∀ p ∈ L2.led, p.1 ≠ C) → compPost W.M A NoE use Q (.ref X) C (.ok .next) { s with heap := h2, toks := t2 }) :
    wpAny W.M A (comprehension (.ListComp elt gens scope pos) scope env p' (newList []) false (firstIter gens env) use) Q NoE s := by
  obtain ⟨⟨g, gs, di, x, k, rfl, he, hi, hc, e⟩, hg, hfold⟩ := c
  have hga := (compOk_async hg).2
  refine wpAny_comprehension_free (g := g) (gs := gs) rfl (fun x => hfold g (.head _) env x) (closure_eq (comp_free hc P)) (compOk_kind hc) (compOk_local hc) ?_
  have hfi : firstIter (g :: gs) env = eval g.iter env := by cases g; rfl
  rw [hfi]
  refine ev_bind he P fun v h1 t1 L1 P1 a1 R1 => ?_
  refine it_new (s := { s with heap := h1, toks := t1 }) P1 R1 hi fun I h2 i2 a2 hn2 => ?_
  have a12 := a1.trans a2
  refine wpAny_newObj_type ?_ (by show (0 : Nat) ≤ sizeLine; omega)
  have a3 := Arr.of_kp (A := A) (W := W) (n := n) (fs := fs) a2.hi (.push fs h2 { cls := .type "list", data := .seq ([] : List Value).toArray })
  have a13 := a12.trans a3
  have hXn : h2.get? h2.objs.size = none := Heap.get?_none_of_le (Nat.le_refl _)
  have hX : (h2.push { cls := .type "list", data := .seq ([] : List Value).toArray }).get? h2.objs.size = some (lob [] 0) := Heap.get?_push_size _ rfl
  refine comp_env (s := { s with heap := h2.push { cls := .type "list", data := .seq ([] : List Value).toArray }, toks := t1 }) (compOk_kind hc) ?_
  obtain ⟨P4, keep4⟩ := comp_frame hc P a13
  have i4 : ItAt (compHeap scope (h2.push { cls := .type "list", data := .seq ([] : List Value).toArray })) L1 I x := i2.keep ⟨fun b o fv z _ => keep4 b o (Heap.get?_push_of_some _ z), fun b z => by
    cases y : h2.get? b with
    | none => rfl
    | some o => rw [keep4 b o (Heap.get?_push_of_some _ y)] at z; cases z⟩ (.refl _)
  have hIne : ∀ p ∈ L1.led, p.1 ≠ I := fun p hp z => by
    have := (P1.hi.led p hp).1
    rw [z] at this
    rw [show h1.get? I = none from hn2] at this
    cases this
  have hXne : ∀ p ∈ L1.led, p.1 ≠ h2.objs.size := fun p hp z => by
    have := (a2.hi.led p hp).1
    rw [z, hXn] at this
    cases this
  have hXow : h2.objs.size ∉ L1.ow := fun z => by
    obtain ⟨vs, c, y⟩ := own_off (P1.arr a2) z
    rw [hXn] at y
    cases y
  have hXs : s.heap.get? h2.objs.size = none := a12.kp.none hXn
  have hXI : h2.objs.size ≠ I := fun z => by
    obtain ⟨o, fv, y, _⟩ := i2.fields
    rw [← z, hXn] at y
    cases y
  have C4 : CI W n A fs (relN scope nm) (ownC scope) { compEnv' scope env (h2.push { cls := .type "list", data := .seq ([] : List Value).toArray }) with scope := relabel scope env } s.heap S.own.length (capt scope S) h2.objs.size [] (compHeap scope (h2.push { cls := .type "list", data := .seq ([] : List Value).toArray })) L L1 :=
    ⟨P4, a12.more, ⟨[], 0, keep4 _ _ hX, .nil⟩, hXne, hXow, hXs⟩
  refine start_list (s := { s with heap := compHeap scope (h2.push { cls := .type "list", data := .seq ([] : List Value).toArray }), toks := t1 }) rfl (hga g (.head _)) i4 ?_
  refine comp_loop (fun g' hg' => ⟨hga g' hg', hfold g' hg'⟩) k 0 (g :: gs) x (capt scope S) [] ds I _ L1 _ rfl e C4 i4 hIne hXI (a1.kp.none hn2) fun h5 t5 L5 C5 m5 kf5 => ?_
  obtain ⟨ws, c5, hX5, r5⟩ := C5.acc
  have H5 := C5.pre.hi
  obtain ⟨m, hns⟩ := C5.pre.loc
  obtain ⟨add, hL5, hadd⟩ := C5.more
  have hCn : s.heap.get? (h2.push { cls := .type "list", data := .seq ([] : List Value).toArray }).objs.size = none := C5.pre.locn
  refine q h2.objs.size _ h5 t5 ⟨(h2.objs.size, lob ws c5) :: L5.led, L5.ow⟩ m ⟨⟨H5.handled, H5.room, H5.units, H5.stk, H5.base, fun p hp => ?_, H5.nb.cons (P.hi.fresh hXs)⟩, C5.pre.keep, (h2.objs.size, lob ws c5) :: add, by rw [hL5]; rfl, fun p hp => ?_⟩ (.list (.head _) (Reps.mono (L' := ⟨(h2.objs.size, lob ws c5) :: L5.led, L5.ow⟩) ⟨fun p hp => List.mem_cons_of_mem _ hp, fun _ _ z => z⟩ r5)) hXs hCn (fun z => ?_) hns (fun p hp z => ?_)
  · rcases List.mem_cons.mp hp with rfl | hp
    · exact ⟨hX5, rfl⟩
    · exact H5.led p hp
  · rcases List.mem_cons.mp hp with rfl | hp
    · exact hXs
    · exact hadd p hp
  · have z : (h2.push { cls := .type "list", data := .seq ([] : List Value).toArray }).objs.size = h2.objs.size := z
    rw [Heap.size_push] at z
    exact absurd z (Nat.succ_ne_self _)
  · obtain ⟨o', es, ep, y, d', _⟩ := hns
    rcases List.mem_cons.mp hp with rfl | hp
    · rw [← z] at y
      rw [hX5] at y
      cases y
      cases d'
    · have y2 := H5.led p hp
      rw [z, y] at y2
      have y3 := y2.2
      cases Option.some.inj y2.1
      unfold dataOk at y3
      rw [d'] at y3
      cases y3
theorem ev_comp [Quiet W] {elt : PySem.Expr} {gens : List Comprehension} {scope : Scope} {ds : List D} {pos : Pos} (c : CmR W n nm cs elt gens scope S ds) : EvD W n nm cs S (.ListComp elt gens scope pos) (.list ds) := by
  intro A fs env h₀ lo s L Q P q
  rw [eval_ListComp]
  have hfa : firstAsync gens = false := by
    obtain ⟨⟨g, gs, _, _, _, rfl, _⟩, hg, _⟩ := c
    exact (compOk_async hg).1
  rw [hfa]
  refine comp_core (use := none) c P fun X C h2 t2 L2 m a2 R2 hX hC hCX hns hCL => ⟨m, hns, fun h3 hs3 => ?_⟩
  have H2 := a2.hi
  refine q (.ref X) h3 t2 L2 ⟨H2.write hCL ?_ hs3 (fun z => ?_), a2.kp.write hC hs3, a2.more⟩ R2
  · cases y : W.base.get? C with
    | none => rfl
    | some o => rw [P.hi.base _ _ y] at hC; cases hC
  · obtain ⟨_, o, es, ep, y, _⟩ := P.hi.stk.dict z
    rw [hC] at y
    cases y
theorem ex_assign_comp [Quiet W] {elt : PySem.Expr} {gens : List Comprehension} {scope : Scope} {ds : List D} {x : Str} {p cpos pos : Pos} (hx : storable nm cs x = true) (c : CmR W n nm cs elt gens scope S ds) : Ex W n nm cs S (exec (.Assign [.Name x p] (.ListComp elt gens scope cpos) pos)) .next (S.set x (.list ds)) := by
  intro A fs env h₀ s L Q P q
  cases hsw : (env.blockKind == .function && env.kindOf x == some .local && p.line == cpos.line && !(scope.names.any fun (n, k) => n == x && (k == .local || k == .cell))) with
  | false =>
    refine wpAny_Assign_Name (ev_bind (ev_comp c) P fun v h1 t1 L1 P1 a1 R1 => ?_) (by rw [← hsw]; rfl)
    exact store P1 R1 (storable_ok hx) fun h2 t2 P2 k2 => q .next h2 t2 L1 .next P2 ((a1.toS P.hi).trans ⟨k2.toS, .refl⟩)
  | true =>
    rw [exec_Assign_Name_used _ _ _ _ (show swapsWith (.ListComp elt gens scope cpos) (some (.Name x p)) pos.line env = pure true by rw [← hsw]; rfl)]
    have hfa : firstAsync gens = false := by
      obtain ⟨⟨g, gs, _, _, _, rfl, _⟩, hg, _⟩ := c
      exact (compOk_async hg).1
    refine wpAny_bind (wpAny_standAt (wpAny_bind ?_))
    show wpAny _ A (do let _ ← comprehension (.ListComp elt gens scope cpos) scope env _ (newList []) (firstAsync gens) (firstIter gens env) (some (assign (.Name x p) env))) _ _ s
    rw [hfa]
    refine wpAny_bind (wpAny_mono (comp_core (Q := fun _ s' => Q .next s') (use := some (assign (.Name x p) env)) c P fun X C h2 t2 L2 m a2 R2 hX hC hCX hns hCL => ?_) (fun _ s' hq => wpAny_pure (wpAny_pure hq)) fun _ _ z => z)
    have P2 := P.arr a2
    show wpAny W.M A (assign (.Name x p) env (.ref X)) _ NoE _
    obtain ⟨oC, es, ep, yC, dC, _⟩ := id hns
    have hlC : env.locals ≠ C := fun z => by
      obtain ⟨_, o', es', ep', y, _⟩ := P.loc
      rw [z, hC] at y
      cases y
    refine wpAny_assign_Name (store' (s := { s with heap := h2, toks := t2 }) P2 R2 (storable_ok hx) fun h3 t3 P3 k3 keep3 => ?_)
    have eC : h3.get? C = some oC := keep3 C oC yC (Ne.symm hlC) fun w z => by rw [dC] at z; cases z
    refine ⟨m, hns.at' (fun o z => by rw [yC] at z; cases z; exact eC), fun h4 hs4 => ?_⟩
    have P4 : Pre W n A fs nm cs env h₀ 0 (S.set x (.list ds)) h4 L2 := P3.off eC (fun z => by
      obtain ⟨_, o, es, ep, y, _⟩ := P.hi.stk.dict z
      rw [hC] at y
      cases y) hlC (fun w z => by rw [dC] at z; cases z) (fun z => by
      obtain ⟨vs, c, y⟩ := own_off P3 z
      rw [eC] at y
      cases y
      cases dC) hCL (P.keep.none hC) hs4.extBut
    exact q .next h4 t3 L2 .next P4 ⟨ExtBut.kpS' hs4.extBut ((a2.kp.toS P.hi.stk).trans k3.toS) hC, a2.more.toS⟩
end
end
section
open PySem PySem.W PyProof.Rows PySem.Spec PySem.Calls
set_option maxRecDepth 100000
set_option maxHeartbeats 1000000
def fits (i : Int) : Bool := decide (-(2 ^ 63) ≤ i) && decide (i < 2 ^ 63)
section
variable {W : Wd} {n : Nat} {nm : List (Str × NameKind)} {cs : List Str} {S S' S₁ S₂ : St} {F : Flo}
/-- what a state holds -/
theorem getL_hit {x : Str} {d : D} : getL x (S.set x d).vars = some d := by
  show (if (x == x) = true then some d else _) = some d
  rw [if_pos (by simp)]
theorem getL_miss {x y : Str} {d : D} (h : (x == y) = false) : getL y (S.set x d).vars = getL y S.vars := by
  show (if (x == y) = true then some d else getL y (S.vars.filter fun p => p.1 != x)) = _
  rw [if_neg (by rw [h]; exact Bool.false_ne_true)]
  generalize S.vars = l
  induction l with
  | nil => rfl
  | cons p r ih =>
    rw [List.filter_cons]
    split
    · show (if _ then _ else _) = (if _ then _ else _)
      rw [ih]
    · rename_i q
      rw [ih]
      have q' : p.1 = x := by simpa using q
      show _ = if (p.1 == y) = true then _ else _
      rw [q', if_neg (by rw [h]; exact Bool.false_ne_true)]
theorem getL_here {x : Str} {d : D} {r : List (Str × D)} {o : List Own} : getL x (St.mk ((x, d) :: r) o).vars = some d := by
  show (if (x == x) = true then some d else _) = some d
  rw [if_pos (by simp)]
theorem getL_next {x y : Str} {d : D} {r : List (Str × D)} {o : List Own} (h : (x == y) = false) : getL y (St.mk ((x, d) :: r) o).vars = getL y (St.mk r o).vars := by
  show (if (x == y) = true then some d else _) = _
  rw [if_neg (by rw [h]; exact Bool.false_ne_true)]
theorem getL_new {x y : Str} {o : Own} (h : (x == y) = false) : getL y (S.newOwn x o).vars = getL y S.vars := getL_miss (S := ⟨S.vars, S.own ++ [o]⟩) h
theorem getL_newh {x : Str} {o : Own} : getL x (S.newOwn x o).vars = some (.own S.own.length) := getL_hit (S := ⟨S.vars, S.own ++ [o]⟩)
theorem getL_filt {x : Str} {f : Str → Bool} (h : f x = true) : ∀ l : List (Str × D), getL x (l.filter fun p => f p.1) = getL x l := by
  intro l
  induction l with
  | nil => rfl
  | cons p r ih =>
    rw [List.filter_cons]
    split
    · show (if _ then _ else _) = (if _ then _ else _)
      rw [ih]
    · rename_i q
      rw [ih]
      have : (p.1 == x) = false := by
        rw [Bool.eq_false_iff]
        intro z
        rw [eq_of_beq z] at q
        exact q h
      show _ = if (p.1 == x) = true then _ else _
      rw [if_neg (by rw [this]; exact Bool.false_ne_true)]
theorem getL_filn {x : Str} {f : Str → Bool} (h : f x = false) : ∀ l : List (Str × D), getL x (l.filter fun p => f p.1) = none := by
  intro l
  induction l with
  | nil => rfl
  | cons p r ih =>
    rw [List.filter_cons]
    split
    · rename_i q
      have : (p.1 == x) = false := by
        rw [Bool.eq_false_iff]
        intro z
        rw [eq_of_beq z, h] at q
        exact Bool.noConfusion q
      show (if (p.1 == x) = true then _ else _) = _
      rw [if_neg (by rw [this]; exact Bool.false_ne_true), ih]
    · exact ih
theorem getL_cap {scope : Scope} {x : Str} (h : (scope.names.lookup x == some .free) = true) : getL x (capt scope S).vars = getL x S.vars := getL_filt (f := fun y => scope.names.lookup y == some .free) h _
theorem getL_capn {scope : Scope} {x : Str} (h : (scope.names.lookup x == some .free) = false) : getL x (capt scope S).vars = none := getL_filn (f := fun y => scope.names.lookup y == some .free) h _
theorem own_set' {x : Str} {d : D} : (S.set x d).own = S.own := rfl
/-- expressions -/
theorem v_name {x : Str} {pos : Pos} {d : D} (hx : getL x S.vars = some d) (h1 : (x == ("__debug__" : Str)) = false := by decide) (h2 : (x == ("__classdict__" : Str)) = false := by decide) : EvD W n nm cs S (.Name x pos) d := ev_var hx h1 h2
theorem v_bin {l r : PySem.Expr} {op : Operator} {pos : Pos} {d₁ d₂ d : D} (x : EvD W n nm cs S l d₁) (y : EvD W n nm cs S r d₂) (e : apP S (binP op) [d₁, d₂] = some d) : EvD W n nm cs S (.BinOp l op r pos) d := ev_bin x y (bin_ok op) e
theorem v_cmp {l r : PySem.Expr} {op : CmpOp} {pos : Pos} {d₁ d₂ d : D} (x : EvD W n nm cs S l d₁) (y : EvD W n nm cs S r d₂) (e : apP S (cmpP op) [d₁, d₂] = some d) (hm : behindInMarks op r = false := by rfl) : EvD W n nm cs S (.Compare l [op] [r] pos) d := ev_cmp x y (cmp_ok op) e hm
theorem t_cmp {l r : PySem.Expr} {op : CmpOp} {pos : Pos} {d₁ d₂ : D} {b : Bool} (x : EvD W n nm cs S l d₁) (y : EvD W n nm cs S r d₂) (e : apP S (cmpP op) [d₁, d₂] = some (.bool b)) (hm : behindInMarks op r = false := by rfl) : TsU W n nm cs S (.Compare l [op] [r] pos) b := ts_cmp x y (cmp_ok op) e hm
theorem v_item {value slice : PySem.Expr} {pos : Pos} {d₁ d₂ d : D} (x : EvD W n nm cs S value d₁) (y : EvD W n nm cs S slice d₂) (e : apP S itemP [d₁, d₂] = some d) (hsl : isSlice slice = false := by rfl) : EvD W n nm cs S (.Subscript value slice pos) d := ev_item x y hsl (.inl e)
theorem v_list {es : List PySem.Expr} {ds : List D} {pos : Pos} (x : EvL W n nm cs S es ds) (hz : ds.length ≤ 1000 := by exact Nat.le_of_ble_eq_true rfl) : EvD W n nm cs S (.List es pos) (.list ds) := ev_List x hz
theorem v_tup {es : List PySem.Expr} {ds : List D} {j : Nat} {pos : Pos} (x : EvL W n nm cs S es ds) (hz : ds.length ≤ 1000 := by exact Nat.le_of_ble_eq_true rfl) : EvD W n nm cs S (.Tuple es j pos) (.tup ds) := ev_Tuple x hz
theorem v_more {e : PySem.Expr} {es : List PySem.Expr} {d : D} {ds : List D} (x : EvD W n nm cs S e d) (y : EvL W n nm cs S es ds) (h : ∀ env, starEach (e :: es) env = (false, eval e env) :: starEach es env := by exact fun _ => rfl) : EvL W n nm cs S (e :: es) (d :: ds) := .cons x h y
/-- a callable name -/
def Cal (W : Wd) (n : Nat) (x : Str) (g : List D → Option D) : Prop := ∃ f, (W.mg x = some f ∨ (W.mg x = none ∧ bootBuiltins x = some f ∧ x ≠ "__name__")) ∧ Keepy W f ∧ ∀ ds d, g ds = some d → OpN W n (callT f) ds d
theorem v_call {x : Str} {p pos : Pos} {e : PySem.Expr} {es : List PySem.Expr} {ds : List D} {d : D} {g : List D → Option D} (c : Cal W n x g) (hx : EvL W n nm cs S (e :: es) ds) (hd : apP S g ds = some d) (hk : nm.lookup x = some .globalImplicit := by rfl) (h1 : (x == ("__debug__" : Str)) = false := by decide) : EvD W n nm cs S (.Call (.Name x p) (e :: es) [] pos) d := by
  obtain ⟨f, hf, hk2, hg⟩ := c
  refine ev_call (f := f) ?_ hk2 hx hg hd
  rcases hf with h | ⟨h2, h3, h4⟩
  · exact ev_glob hk h h1
  · exact ev_builtin hk h2 h3 h4 h1
theorem cal_def {x : Str} {a : Addr} {g : List D → Option D} (hv : W.mg x = some (.ref a)) (hk : Keepy W (.ref a)) (h : ∀ ds d, g ds = some d → OpN W n (callT (.ref a)) ds d) : Cal W n x g := ⟨_, .inl hv, hk, h⟩
theorem cal_op {x : Str} {a : Addr} {ds₀ : List D} {d₀ : D} (hv : W.mg x = some (.ref a)) (hk : Keepy W (.ref a)) (h : OpN W n (callT (.ref a)) ds₀ d₀) : ∃ g, Cal W n x g ∧ g ds₀ = some d₀ := by
  classical
  refine ⟨fun ds => if ds = ds₀ then some d₀ else none, ⟨_, .inl hv, hk, fun ds d e => ?_⟩, if_pos rfl⟩
  dsimp only at e
  split at e
  · rename_i q
    rw [q, ← Option.some.inj e]; exact h
  · exact no_some e
theorem t_val {e : PySem.Expr} {d : D} {b : Bool} (x : EvD W n nm cs S e d) (h : trP d = some b) (ho : S.see d = some d := by rfl) (hw : ∀ env, PySem.isTrue e env (eval e env) = (do let v ← eval e env; standAt (Expr.pos e); holding [v] (truthy v)) := by exact fun _ => rfl) : TsU W n nm cs S e b :=
  ts_plain x (fun A fs L v env h₀ lo s Q Rv P q => tr_ok Rv P ho h q) hw
theorem t_and {e f : PySem.Expr} {pos : Pos} {b c : Bool} (x : TsU W n nm cs S e b) (y : b = true → TsU W n nm cs S f c) : TsU W n nm cs S (.BoolOp .And [e, f] pos) (b && c) := by
  refine ts_and x fun h => ?_
  have := ts_and (rest := []) (pos := pos) (w := eval (.BoolOp .And [e, f] pos)) (y h) fun _ => ts_and_nil (W := W) (n := n) (nm := nm) (cs := cs) (S := S)
  rw [Bool.and_true] at this
  exact this
theorem ap_no {f : List D → Option D} {ds : List D} {d : D} (e : f ds = some d) (h : ds.any D.isOwn = false := by rfl) : apP S f ds = some d := by
  unfold apP
  rw [h]
  exact e
/-- operations on numbers -/
theorem o_mul {i j : Int} (h : (b64 i || b64 j) = true) : apP S (binP .Mult) [.int i, .int j] = some (.int (i * j)) := by
  show (if b64 i || b64 j then some (D.int (i * j)) else none) = _
  rw [if_pos h]
theorem o_div {i j : Int} (h : (j != 0 && b64 j) = true) : apP S (binP .FloorDiv) [.int i, .int j] = some (.int (i.fdiv j)) := by
  show (if j != 0 && b64 j then some (D.int (i.fdiv j)) else none) = _
  rw [if_pos h]
theorem o_mod {i j : Int} (h : (j != 0) = true) : apP S (binP .Mod) [.int i, .int j] = some (.int (i.fmod j)) := by
  show (if j != 0 then some (D.int (i.fmod j)) else none) = _
  rw [if_pos h]
theorem o_pow {i j : Int} (h : (decide (0 ≤ j) && decide (j ≤ 1000) && b64 i) = true) : apP S (binP .Pow) [.int i, .int j] = some (.int (i ^ j.toNat)) := by
  show (if decide (0 ≤ j) && decide (j ≤ 1000) && b64 i then some (D.int (i ^ j.toNat)) else none) = _
  rw [if_pos h]
theorem o_cat {l r : List D} (h : l.length + r.length ≤ 100000) : apP S (binP .Add) [.list l, .list r] = some (.list (l ++ r)) := by
  show (if decide (l.length + r.length ≤ 100000) then some (D.list (l ++ r)) else none) = _
  rw [if_pos (decide_eq_true h)]
theorem o_eql {l r : List D} {b : Bool} (h : eqP 4 (.list l) (.list r) = some b) : apP S (cmpP .Eq) [.list l, .list r] = some (.bool b) := by
  show (eqP 4 (.list l) (.list r)).map D.bool = _
  rw [h]; rfl
theorem o_nel {l r : List D} {b : Bool} (h : eqP 4 (.list l) (.list r) = some b) : apP S (cmpP .NotEq) [.list l, .list r] = some (.bool (!b)) := by
  show (eqP 4 (.list l) (.list r)).map (fun b => D.bool (!b)) = _
  rw [h]; rfl
theorem o_in {i : Int} {l : List D} {b : Bool} (h : inP (.int i) l = some b) : apP S (cmpP .In) [.int i, .list l] = some (.bool b) := by
  show (inP (.int i) l).map (fun b => D.bool b) = _
  rw [h]; rfl
theorem i_at {l : List D} {i : Int} {j : Nat} {d : D} (hf : fits i = true) (hq : seqIndex? i l.length = some j) (hd : l[j]? = some d) : itemP [.list l, .int i] = some d := by
  unfold itemP itemD
  dsimp only
  unfold fits at hf
  rw [if_pos hf, hq]
  exact hd
theorem o_at {l : List D} {i : Int} {j : Nat} {d : D} (hf : fits i = true) (hq : seqIndex? i l.length = some j) (hd : l[j]? = some d) : apP S itemP [.list l, .int i] = some d := i_at hf hq hd
theorem o_atT {l : List D} {i : Int} {j : Nat} {d : D} (hf : fits i = true) (hq : seqIndex? i l.length = some j) (hd : l[j]? = some d) (ho : [D.tup l, .int i].any D.isOwn = false := by rfl) : apP S itemP [.tup l, .int i] = some d := by
  show itemP [.tup l, .int i] = _
  unfold itemP itemD
  dsimp only
  unfold fits at hf
  rw [if_pos hf, hq]
  exact hd
end
end
section
open PySem PySem.W PyProof.Rows PySem.Spec PySem.Calls
set_option maxRecDepth 100000
set_option maxHeartbeats 1000000
section
variable {W : Wd} {n : Nat} {nm : List (Str × NameKind)} {cs : List Str} {S S' S₁ S₂ : St} {F : Flo} {T : St → Prop}
theorem cal_len (h : W.mg "len" = none) : Cal W n "len" lenP := ⟨_, .inr ⟨h, boot_len, by decide⟩, .inl (fun a z => (nomatch z)), fun ds d e => len_ok ds d e⟩
theorem cal_sum [Quiet W] (h : W.mg "sum" = none) : Cal W n "sum" sumP := ⟨_, .inr ⟨h, boot_sum, by decide⟩, .inl (fun a z => (nomatch z)), fun ds d e => sum_ok ds d e⟩
theorem cal_range (h : W.mg "range" = none) : Cal W n "range" rangeP := ⟨_, .inr ⟨h, boot_range, by decide⟩, .inl (fun a z => (nomatch z)), fun ds d e => range_ok ds d e⟩
/-- statements, and what holds of the state that they leave -/
def ExQ (W : Wd) (n : Nat) (nm : List (Str × NameKind)) (cs : List Str) (S : St) (ss : List PySem.Stmt) (F : Flo) (T : St → Prop) : Prop := ∃ S', Ex W n nm cs S (execs ss) F S' ∧ T S'
theorem q_cons {st : PySem.Stmt} {rest : List PySem.Stmt} (x : Ex W n nm cs S (exec st) .next S₁) (y : ExQ W n nm cs S₁ rest F T) : ExQ W n nm cs S (st :: rest) F T := by
  obtain ⟨S', y, h⟩ := y
  exact ⟨S', ex_cons x y, h⟩
theorem q_nil (h : T S) : ExQ W n nm cs S [] .next T := ⟨S, ex_nil, h⟩
theorem q_stop {st : PySem.Stmt} {rest : List PySem.Stmt} (hF : F ≠ .next) (x : Ex W n nm cs S (exec st) F S₁) (h : T S₁) : ExQ W n nm cs S (st :: rest) F T := ⟨S₁, ex_stop hF x, h⟩
theorem q_if {test : PySem.Expr} {body orelse : List PySem.Stmt} {pos : Pos} {b : Bool} (t : TsU W n nm cs S test b) (y : ExQ W n nm cs S (if b then body else orelse) .next T) : ExQ W n nm cs S [.If test body orelse pos] .next T := by
  obtain ⟨S', y, h⟩ := y
  refine ⟨S', ex_cons (ex_if t (fun z => ?_) (fun z => ?_)) ex_nil, h⟩
  · subst z; exact y
  · subst z; exact y
theorem q_one {st : PySem.Stmt} (x : Ex W n nm cs S (exec st) .next S₁) (h : T S₁) : ExQ W n nm cs S [st] .next T := ⟨S₁, ex_cons x ex_nil, h⟩
/-- what a def gives back -/
def FnR (W : Wd) (n : Nat) (nm : List (Str × NameKind)) (cs : List Str) (S : St) (ss : List PySem.Stmt) (d : D) : Prop := ∃ d0 S', Ex W n nm cs S (execs ss) (.ret d0) S' ∧ retP S' d0 = some d
theorem f_ret {e : PySem.Expr} {pos : Pos} {rest : List PySem.Stmt} {d0 d : D} (v : EvD W n nm cs S e d0) (h : retP S d0 = some d) : FnR W n nm cs S (.Return (some e) pos :: rest) d := ⟨d0, S, ex_stop (by simp) (ex_return v), h⟩
theorem f_cons {st : PySem.Stmt} {rest : List PySem.Stmt} {d : D} (x : Ex W n nm cs S (exec st) .next S₁) (y : FnR W n nm cs S₁ rest d) : FnR W n nm cs S (st :: rest) d := by
  obtain ⟨d0, S', y, h⟩ := y
  exact ⟨d0, S', ex_cons x y, h⟩
theorem f_if {test : PySem.Expr} {body rest : List PySem.Stmt} {pos : Pos} {b : Bool} {d : D} (t : TsU W n nm cs S test b) (y : b = true → FnR W n nm cs S body d) (z : b = false → FnR W n nm cs S rest d) : FnR W n nm cs S (.If test body [] pos :: rest) d := by
  cases b with
  | true =>
    obtain ⟨d0, S', y, h⟩ := y rfl
    exact ⟨d0, S', ex_stop (by simp) (ex_if t (fun _ => y) fun z => nomatch z), h⟩
  | false =>
    obtain ⟨d0, S', z, h⟩ := z rfl
    exact ⟨d0, S', ex_cons (ex_if t (fun z => nomatch z) fun _ => ex_nil) z, h⟩
/-- loops over items, by an invariant -/
theorem for_inv {t : PySem.Expr} {body : List PySem.Stmt} (J : List D → St → Prop) (step : ∀ d ds S, J (d :: ds) S → ∃ S1, bindT nm cs t d S = some S1 ∧ ExQ W n nm cs S1 body .next (J ds)) : ∀ (xs : List D) (S : St), J xs S → ∃ S', FoR W n nm cs t body [] (xs.length + 1) (.items xs) S .next S' ∧ J [] S' := by
  intro xs
  induction xs with
  | nil => exact fun S h => ⟨S, .inl ⟨rfl, ex_nil⟩, h⟩
  | cons d ds ih =>
    intro S h
    obtain ⟨S1, h1, S2, h2, h3⟩ := step d ds S h
    obtain ⟨S3, h4, h5⟩ := ih S2 h3
    exact ⟨S3, .inr ⟨d, .items ds, S1, .next, S2, rfl, h1, h2, h4⟩, h5⟩
theorem q_for [Quiet W] {t iter : PySem.Expr} {body : List PySem.Stmt} {pos : Pos} {di : D} {xs : List D} (v : EvD W n nm cs S iter di) (hx : iterP di = some (.items xs)) (J : List D → St → Prop) (h0 : J xs S) (step : ∀ d ds S, J (d :: ds) S → ∃ S1, bindT nm cs t d S = some S1 ∧ ExQ W n nm cs S1 body .next (J ds)) (hs : ∀ env x, foldedSetIterable iter env x = pure x := by exact fun _ _ => rfl) :
    ∃ S', Ex W n nm cs S (exec (.For t iter body [] pos)) .next S' ∧ J [] S' := by
  obtain ⟨S', h1, h2⟩ := for_inv (W := W) (n := n) J step xs S h0
  exact ⟨S', ex_forR v hx h1 hs, h2⟩
theorem f_some {st : PySem.Stmt} {rest : List PySem.Stmt} {d : D} (x : ∃ S', Ex W n nm cs S (exec st) .next S' ∧ T S') (y : ∀ S1, T S1 → FnR W n nm cs S1 rest d) : FnR W n nm cs S (st :: rest) d := by
  obtain ⟨S1, x, h⟩ := x
  exact f_cons x (y S1 h)
theorem q_some {st : PySem.Stmt} {rest : List PySem.Stmt} {T1 : St → Prop} (x : ∃ S', Ex W n nm cs S (exec st) .next S' ∧ T1 S') (y : ∀ S1, T1 S1 → ExQ W n nm cs S1 rest F T) : ExQ W n nm cs S (st :: rest) F T := by
  obtain ⟨S1, x, h⟩ := x
  exact q_cons x (y S1 h)
/-- comprehensions -/
def FrR (S : St) : List (Str × NameKind) → Prop
  | [] => True
  | (x, .free) :: r => (∃ d, getL x S.vars = some d) ∧ FrR S r
  | _ :: r => FrR S r
theorem frR_all : ∀ {l : List (Str × NameKind)}, FrR S l → ∀ p ∈ l, p.2 = .free → (getL p.1 S.vars).isSome = true := by
  intro l
  induction l with
  | nil => exact fun _ p hp => nomatch hp
  | cons q r ih =>
    obtain ⟨x, k⟩ := q
    intro h p hp e
    rcases List.mem_cons.mp hp with rfl | hp2
    · rw [show k = .free from e] at h
      obtain ⟨⟨d, hd⟩, _⟩ := h
      rw [hd]; rfl
    · cases k with
      | free => exact ih h.2 p hp2 e
      | _ => exact ih h p hp2 e
def okStat (scope : Scope) (nm : List (Str × NameKind)) : Bool :=
  decide (scope.kind = .function) && scope.names.all (fun p => p.2 != .local || scope.names.lookup p.1 == some .local) && scope.names.all (fun p => p.2 != .cell || scope.names.lookup p.1 == some .cell) &&
  scope.names.all fun p => p.2 != .free || (scope.names.lookup p.1 == some .free && (nm.lookup p.1 == some .cell || nm.lookup p.1 == some .free))
theorem compOk_of {scope : Scope} (h1 : okStat scope nm = true) (h2 : FrR S scope.names) : compOk scope nm S = true := by
  unfold okStat at h1
  unfold compOk
  rw [Bool.and_eq_true] at h1 ⊢
  refine ⟨h1.1, ?_⟩
  have h3 := h1.2
  rw [List.all_eq_true] at h3 ⊢
  intro p hp
  have h4 := h3 p hp
  rw [Bool.or_eq_true] at h4 ⊢
  rcases h4 with h4 | h4
  · exact .inl h4
  · by_cases e : p.2 = .free
    · rw [Bool.and_eq_true] at h4
      refine .inr ?_
      rw [Bool.and_eq_true, Bool.and_eq_true]
      exact ⟨⟨h4.1, frR_all h2 p hp e⟩, h4.2⟩
    · exact .inl (by simpa using e)
theorem bT_name {x : Str} {p : Pos} {d : D} (h : storable nm cs x = true := by rfl) : bindT nm cs (.Name x p) d S = some (S.set x d) := by
  have : bindT nm cs (.Name x p) d S = if storable nm cs x = true then some (S.set x d) else none := by cases d <;> rfl
  rw [this, if_pos h]
theorem bF_name {x : Str} {p : Pos} {d : D} (h1 : getL x S.vars = none) (h2 : storable nm cs x = true := by rfl) : bindF nm cs (.Name x p) d S = some (S.set x d) := by
  unfold bindF
  rw [show ((names (.Name x p)).all fun x => (getL x S.vars).isNone) = true by show ((getL x S.vars).isNone && true) = true; rw [h1]; rfl, if_pos rfl]
  exact bT_name h2
theorem bT_two {x y : Str} {p q r : Pos} {j : Nat} {a b : D} (h1 : storable nm cs x = true := by rfl) (h2 : storable nm cs y = true := by rfl) : bindT nm cs (.Tuple [.Name x p, .Name y q] j r) (.tup [a, b]) S = some ((S.set x a).set y b) := by
  show (if storable nm cs x = true then (if storable nm cs y = true then some ((S.set x a).set y b) else none) else none) = _
  rw [if_pos h1, if_pos h2]
theorem bF_two {x y : Str} {p q r : Pos} {j : Nat} {a b : D} (h1 : getL x S.vars = none) (h2 : getL y S.vars = none) (h3 : storable nm cs x = true := by rfl) (h4 : storable nm cs y = true := by rfl) : bindF nm cs (.Tuple [.Name x p, .Name y q] j r) (.tup [a, b]) S = some ((S.set x a).set y b) := by
  unfold bindF
  rw [show ((names (.Tuple [.Name x p, .Name y q] j r)).all fun x => (getL x S.vars).isNone) = true by show ((getL x S.vars).isNone && ((getL y S.vars).isNone && true)) = true; rw [h1, h2]; rfl, if_pos rfl]
  exact bT_two h3 h4
section
variable {elt : PySem.Expr} {g g' : Comprehension} {α : Type}
theorem cl1 (o : α → D) (f : α → D) (c : α → Bool) : ∀ (xs : List α) (acc : List D) (k : Nat), xs.length < k → acc.length + xs.length ≤ 100000 →
    (∀ x ∈ xs, ∃ S1, bindF nm cs g.target (o x) S = some S1 ∧ TsL W n nm cs S1 g.ifs (c x) ∧ (c x = true → EvD W n nm cs S1 elt (f x))) →
    ClR W n nm cs elt k [g] (.items (xs.map o)) S acc (acc ++ (xs.filter c).map f) := by
  intro xs
  induction xs with
  | nil =>
    intro acc k hk hz h
    cases k with
    | zero => exact absurd hk (Nat.not_lt_zero _)
    | succ k => exact .inl ⟨rfl, by simp⟩
  | cons d r ih =>
    intro acc k hk hz h
    rw [List.length_cons] at hk hz
    cases k with
    | zero => exact absurd hk (Nat.not_lt_zero _)
    | succ k =>
      obtain ⟨S1, h1, h2, h3⟩ := h d (.head _)
      rw [List.filter_cons]
      cases hc : c d with
      | false =>
        rw [hc] at h2
        exact .inr ⟨o d, .items (r.map o), S1, false, acc, rfl, h1, h2, ih acc k (by omega) (by omega) fun d hd => h d (.tail _ hd), rfl⟩
      | true =>
        rw [hc] at h2
        refine .inr ⟨o d, .items (r.map o), S1, true, acc ++ [f d], rfl, h1, h2, ?_, f d, h3 hc, by omega, rfl⟩
        have := ih (acc ++ [f d]) k (by omega) (by rw [List.length_append]; simp; omega) fun d hd => h d (.tail _ hd)
        rw [if_pos rfl, List.map_cons]
        rw [List.append_assoc] at this
        exact this
theorem cl2 (o : α → D) (R : α → List D) (c : α → Bool) (M : Nat) : ∀ (xs : List α) (acc : List D) (k : Nat), xs.length + M < k → acc.length + xs.length * M ≤ 50000 → (∀ x ∈ xs, (R x).length ≤ M) →
    (∀ x ∈ xs, ∃ S1, bindF nm cs g.target (o x) S = some S1 ∧ TsL W n nm cs S1 g.ifs (c x) ∧ (c x = true → ∃ di es, EvD W n nm cs S1 g'.iter di ∧ iterP di = some (.items es) ∧ ∀ acc k, M < k → acc.length ≤ 50000 → ClR W n nm cs elt k [g'] (.items es) S1 acc (acc ++ R x))) →
    ClR W n nm cs elt k [g, g'] (.items (xs.map o)) S acc (acc ++ (xs.filter c).flatMap R) := by
  intro xs
  induction xs with
  | nil =>
    intro acc k hk hz hR h
    cases k with
    | zero => exact absurd hk (Nat.not_lt_zero _)
    | succ k => exact .inl ⟨rfl, by simp⟩
  | cons d r ih =>
    intro acc k hk hz hR h
    rw [List.length_cons] at hk hz
    rw [Nat.succ_mul] at hz
    cases k with
    | zero => exact absurd hk (Nat.not_lt_zero _)
    | succ k =>
      obtain ⟨S1, h1, h2, h3⟩ := h d (.head _)
      rw [List.filter_cons]
      cases hc : c d with
      | false =>
        rw [hc] at h2
        exact .inr ⟨o d, .items (r.map o), S1, false, acc, rfl, h1, h2, ih acc k (by omega) (by omega) (fun d hd => hR d (.tail _ hd)) fun d hd => h d (.tail _ hd), rfl⟩
      | true =>
        rw [hc] at h2
        obtain ⟨di, es, h4, h5, h6⟩ := h3 hc
        have hl := hR d (.head _)
        refine .inr ⟨o d, .items (r.map o), S1, true, acc ++ R d, rfl, h1, h2, ?_, di, .items es, h4, h5, h6 acc k (by omega) (by omega)⟩
        have := ih (acc ++ R d) k (by omega) (by rw [List.length_append]; omega) (fun d hd => hR d (.tail _ hd)) fun d hd => h d (.tail _ hd)
        rw [if_pos rfl, List.flatMap_cons]
        rw [List.append_assoc] at this
        exact this
end
theorem c_one [Quiet W] {elt : PySem.Expr} {g : Comprehension} {scope : Scope} {di : D} {α : Type} (o : α → D) (f : α → D) (c : α → Bool) (xs : List α) (he : EvD W n nm cs S g.iter di) (hi : iterP di = some (.items (xs.map o))) (hl : xs.length ≤ 100000) (h1 : okStat scope nm = true) (h2 : FrR S scope.names) (ha : (g.is_async == 0) = true) (hf : ∀ env x, foldedSetIterable g.iter env x = pure x)
    (h : ∀ x ∈ xs, ∃ S1, bindF (relN scope nm) (ownC scope) g.target (o x) (capt scope S) = some S1 ∧ TsL W n (relN scope nm) (ownC scope) S1 g.ifs (c x) ∧ (c x = true → EvD W n (relN scope nm) (ownC scope) S1 elt (f x))) : CmR W n nm cs elt [g] scope S ((xs.filter c).map f) :=
  ⟨⟨g, [], di, _, xs.length + 1, rfl, he, hi, compOk_of h1 h2, by
    have := cl1 (W := W) (n := n) (nm := relN scope nm) (cs := ownC scope) (S := capt scope S) (elt := elt) (g := g) o f c xs [] (xs.length + 1) (Nat.lt_succ_self _) (by simpa using hl) h
    rw [List.nil_append] at this
    exact this⟩, by rw [List.all_cons, ha]; rfl, fun g' hg' => by rw [List.mem_singleton.mp hg']; exact hf⟩
end
end
section
open PySem PySem.W PyProof.Rows PySem.Spec PySem.Calls
set_option maxRecDepth 100000
set_option maxHeartbeats 1000000
theorem fn_run {W : Wd} {n : Nat} {f : Addr} {o : Obj} {fd : FuncData} {body : List PySem.Stmt} {ds : List D} {d' : D} {ps : List Str} {cs : List Str} (ho : W.K.lookup f = some o) (hd : o.data = .func fd) (hcd : codeIn W.K fd.code fd.qualname = true) (hbody : fd.body = .stmts body)
    (hbind : ∀ vs : List Value, vs.length = ps.length → bindArgs fd ⟨vs, []⟩ = pure (ps.zip vs)) (hclo : fd.closure = []) (hg : fd.globals = mainGlobals) (hb : fd.builtins = builtinsNs) (hco : fd.scope.isCoroutine = false) (hgen : fd.scope.isGenerator = false) (hk : fd.scope.kind = .function)
    (hps : ps.all (fun x => fd.scope.names.lookup x == some .local || fd.scope.names.lookup x == some .cell) = true) (hnd : ps.Nodup) (hcs : ∀ x ∈ cs, fd.scope.names.lookup x = some .cell) (hlen : ds.length = ps.length) (hpure : ds.all (pureP 6) = true)
    (run : FnR W n fd.scope.names cs ⟨ps.zip ds, []⟩ body d') : OpN W (n + 1) (callT (.ref f)) ds d' := by
  obtain ⟨d0, S', h, hr⟩ := run
  exact fn_ok ho hd hcd hbody hbind hclo hg hb hco hgen hk hps hnd hcs hlen hpure h hr
theorem hb1 {P : List Value → Prop} (h : ∀ a, P [a]) : ∀ vs : List Value, vs.length = 1 → P vs := fun vs e => by obtain ⟨a, rfl⟩ := List.length_eq_one_iff.mp e; exact h a
theorem hb2 {P : List Value → Prop} (h : ∀ a b, P [a, b]) : ∀ vs : List Value, vs.length = 2 → P vs := fun vs e => by
  cases vs with
  | nil => cases e
  | cons a r => exact hb1 (P := fun r => P (a :: r)) (h a) r (Nat.succ.inj e)
theorem ret_pure {S : St} {d : D} (h : pureP 6 d = true) (ho : d.isOwn = false := by rfl) : retP S d = some d := by
  cases d with
  | own k => cases ho
  | set tx m => rfl
  | _ => exact if_pos (e := (none : Option D)) h
end
section
open PySem PySem.W PyProof.Rows PySem.Spec PySem.Calls
set_option maxRecDepth 100000
set_option maxHeartbeats 4000000
theorem inP_ints {ns : List Int} : inP (.int i) (ns.map .int) = some (ns.contains i) := by
  unfold inP
  induction ns with
  | nil => rfl
  | cons n ns ih =>
    rw [List.map_cons, List.map_cons]
    unfold anyP
    show (match anyP _ with | some c => some ((n == i) || c) | none => none) = _
    rw [ih]
    dsimp only
    rw [List.contains_cons, Bool.beq_comm]
theorem allP_ints : ∀ {ns ms : List Int} (q : Nat), ns.length = ms.length → allP (List.zipWith (eqP q) (ns.map D.int) (ms.map D.int)) = some (ns == ms) := by
  intro ns
  induction ns with
  | nil => intro ms q h; cases ms with
    | nil => rfl
    | cons _ _ => cases h
  | cons n ns ih =>
    intro ms q h
    cases ms with
    | nil => cases h
    | cons m ms =>
      rw [List.map_cons, List.map_cons, List.zipWith_cons_cons]
      have e : eqP q (.int n) (.int m) = some (n == m) := by cases q <;> rfl
      rw [e]
      unfold allP
      rw [ih q (by simpa using h)]
      rfl
theorem pure_ints {ns : List Int} (q : Nat) : (ns.map D.int).all (pureP q) = true := by
  rw [List.all_map, List.all_eq_true]
  intro n _
  cases q <;> rfl
theorem eqP_ints {ns ms : List Int} (q : Nat) : eqP (q + 1) (.list (ns.map .int)) (.list (ms.map .int)) = some (ns == ms) := by
  unfold eqP
  rw [pure_ints, pure_ints]
  simp only [Bool.and_self, if_true, List.length_map]
  split
  · rename_i h
    exact allP_ints q (by simpa using h)
  · rename_i h
    congr 1
    symm
    rw [beq_eq_false_iff_ne]
    rintro rfl
    exact h (by simp)
def gate {α : Type} (b : Bool) (o : Option α) : Option α := if b then o else none
theorem gate_of {α : Type} {b : Bool} {o : Option α} (h : b = true) : gate b o = o := by rw [h]; rfl
theorem intsOf_map : ∀ ns : List Int, intsOf (ns.map D.int) = some ns := by
  intro ns
  induction ns with
  | nil => rfl
  | cons a r ih => show (intsOf (r.map D.int)).map (fun l => a :: l) = _; rw [ih]; rfl
theorem sum_d {ns : List Int} : sumP [.list (ns.map .int)] = some (.int ns.sum) := by
  show (match intsOf (ns.map D.int) with | some ns => some (D.int ns.sum) | none => none) = _
  rw [intsOf_map]
theorem sorted_d {ns : List Int} : sortedP [.list (ns.map .int)] = gate (decide (ns.length < 64)) (some (.list ((isort ns).map .int))) := by
  show (match intsOf (ns.map D.int) with | some ns => (if decide (ns.length < 64) then some (D.list ((isort ns).map .int)) else none) | none => none) = _
  rw [intsOf_map]
  rfl
end
section
open PySem PySem.W PyProof.Rows PySem.Spec PySem.Calls
set_option maxRecDepth 100000
set_option maxHeartbeats 1000000
section
variable {W : Wd} {n : Nat} {nm : List (Str × NameKind)} {cs : List Str} {S S' S₁ : St} {F : Flo} {T : St → Prop} {k : Nat} {l : List D}
theorem see_at (h : S.own[k]? = some (.list l)) : S.see (.own k) = some (.list l) := by
  show (match S.own[k]? with | some (.list ds) => some (D.list ds) | none => none) = _
  rw [h]
theorem see_no {d : D} (h : d.isOwn = false) : S.see d = some d := by
  cases d with
  | own k => cases h
  | _ => rfl
theorem ap_own {f : List D → Option D} {ds ds' : List D} {d : D} (ho : ds.any D.isOwn = true) (hs : seeAll S ds = some ds') (h : f ds' = some d) (hf : d.flat = true := by rfl) : apP S f ds = some d := by
  unfold apP
  rw [if_pos ho, hs]
  dsimp only
  rw [h]
  exact if_pos hf
theorem see_two {a b a' b' : D} (h1 : S.see a = some a') (h2 : S.see b = some b') : seeAll S [a, b] = some [a', b'] := by
  unfold seeAll seeAll seeAll
  rw [h1, h2]
theorem o_r {f : List D → Option D} {a d : D} (ha : a.isOwn = false) (h : S.own[k]? = some (.list l)) (e : f [a, .list l] = some d) (hf : d.flat = true := by rfl) : apP S f [a, .own k] = some d := ap_own (by rw [List.any_cons, List.any_cons]; show (a.isOwn || (true || _)) = true; simp) (see_two (see_no ha) (see_at h)) e hf
theorem ret_own (h : S.own[k]? = some (.list l)) (hp : l.all (pureP 5) = true) : retP S (.own k) = some (.list l) := by
  show (match S.own[k]? with | some (.list ds) => (if ds.all (pureP 5) then some (D.list ds) else none) | none => none) = _
  rw [h]
  exact if_pos hp
theorem q_ifF {test : PySem.Expr} {body orelse : List PySem.Stmt} {pos : Pos} {b : Bool} (hF : F ≠ .next) (t : TsU W n nm cs S test b) (y : ExQ W n nm cs S (if b then body else orelse) F T) : ExQ W n nm cs S [.If test body orelse pos] F T := by
  obtain ⟨S', y, h⟩ := y
  refine ⟨S', ex_stop hF (ex_if t (fun z => ?_) (fun z => ?_)), h⟩
  · subst z; exact y
  · subst z; exact y
theorem q_brk {p : Pos} {rest : List PySem.Stmt} (h : T S) : ExQ W n nm cs S (.Break p :: rest) .brk T := ⟨S, ex_stop (by simp) ex_break, h⟩
theorem x_app {x : Str} {p apos cpos pos : Pos} {e : PySem.Expr} {ds : List D} {d : D} (hx : getL x S.vars = some (.own k)) (hds : S.own[k]? = some (.list ds)) (v : EvD W n nm cs S e d) (hz : ds.length ≤ 1000000) (h1 : (x == ("__debug__" : Str)) = false := by decide) (h2 : (x == ("__classdict__" : Str)) = false := by decide) (hs : ∀ env, starEach [e] env = [(false, eval e env)] := by exact fun _ => rfl) (hline : (apos.endLine == cpos.line) = true := by rfl) :
    Ex W n nm cs S (exec (.Expr (.Call (.Attribute (.Name x p) "append" apos) [e] [] cpos) pos)) .next ⟨S.vars, S.own.set k (.list (ds ++ [d]))⟩ := ex_append (ev_var hx h1 h2) hds v hs hline hz
theorem q_loop [Quiet W] {t iter : PySem.Expr} {body els : List PySem.Stmt} {pos : Pos} {di : D} {xs : List D} {m : Nat} (v : EvD W n nm cs S iter di) (hx : iterP di = some (.items xs)) (h : ∃ S2, FoR W n nm cs t body els m (.items xs) S F S2 ∧ T S2) (hs : ∀ env x, foldedSetIterable iter env x = pure x := by exact fun _ _ => rfl) : ∃ S', Ex W n nm cs S (exec (.For t iter body els pos)) F S' ∧ T S' := by
  obtain ⟨S2, h1, h2⟩ := h
  exact ⟨S2, ex_forR v hx h1 hs, h2⟩
theorem q_last {st : PySem.Stmt} (x : ∃ S', Ex W n nm cs S (exec st) .next S' ∧ T S') : ExQ W n nm cs S [st] .next T := by
  obtain ⟨S', x, h⟩ := x
  exact ⟨S', ex_cons x ex_nil, h⟩
end
theorem strs_map : ∀ l : List Str, strsOf (l.map D.str) = some l := by
  intro l
  induction l with
  | nil => rfl
  | cons a r ih => show (strsOf (r.map D.str)).map (fun l => a :: l) = _; rw [ih]; rfl
theorem join_d {x : Str} {l : List Str} (hx : x.length ≤ 16) (hl : (l.map (·.length)).sum + l.length ≤ 1048576) : joinP [.str x, .list (l.map .str)] = some (.str (Txt.join x l)) := by
  unfold joinP
  dsimp only
  rw [strs_map]
  dsimp only
  rw [if_pos (by rw [Bool.and_eq_true, decide_eq_true_eq, decide_eq_true_eq]; exact ⟨hx, hl⟩)]
end
section
open PySem PySem.W PyProof.Rows PySem.Spec PySem.Calls
set_option maxRecDepth 100000
set_option maxHeartbeats 1000000
section
variable {W : Wd} {n : Nat} {nm : List (Str × NameKind)} {cs : List Str} {S S' S₁ : St} {F : Flo} {T : St → Prop} {k : Nat} {l : List D}
theorem q_assign {x : Str} {p pos : Pos} {value : PySem.Expr} {rest : List PySem.Stmt} {d : D} (v : EvD W n nm cs S value d) (y : ExQ W n nm cs (S.set x d) rest F T) (hc : isComp value = false := by rfl) (hx : storable nm cs x = true := by rfl) : ExQ W n nm cs S (.Assign [.Name x p] value pos :: rest) F T := q_cons (ex_assign hx hc v) y
theorem f_assign {x : Str} {p pos : Pos} {value : PySem.Expr} {rest : List PySem.Stmt} {d d' : D} (v : EvD W n nm cs S value d) (y : FnR W n nm cs (S.set x d) rest d') (hc : isComp value = false := by rfl) (hx : storable nm cs x = true := by rfl) : FnR W n nm cs S (.Assign [.Name x p] value pos :: rest) d' := f_cons (ex_assign hx hc v) y
theorem f_own {x : Str} {p lpos pos : Pos} {es : List PySem.Expr} {rest : List PySem.Stmt} {ds : List D} {d' : D} (v : EvL W n nm cs S es ds) (y : FnR W n nm cs (S.newOwn x (.list ds)) rest d') (hz : ds.length ≤ 1000 := by exact Nat.le_of_ble_eq_true rfl) (hx : storable nm cs x = true := by rfl) : FnR W n nm cs S (.Assign [.Name x p] (.List es lpos) pos :: rest) d' := f_cons (ex_own hx v hz) y
theorem f_comp [Quiet W] {x : Str} {p cpos pos : Pos} {elt : PySem.Expr} {gens : List Comprehension} {scope : Scope} {rest : List PySem.Stmt} {ds : List D} {d' : D} (c : CmR W n nm cs elt gens scope S ds) (y : FnR W n nm cs (S.set x (.list ds)) rest d') (hx : storable nm cs x = true := by rfl) : FnR W n nm cs S (.Assign [.Name x p] (.ListComp elt gens scope cpos) pos :: rest) d' := f_cons (ex_assign_comp hx c) y
end
end
section
open PySem PySem.W PyProof.Rows PySem.Spec PySem.Calls
set_option maxRecDepth 100000
set_option maxHeartbeats 1000000
section
variable {W : Wd} {n : Nat} {nm : List (Str × NameKind)} {cs : List Str} {S S' S₁ : St} {F : Flo} {T : St → Prop} {x : Str} {l : List (Str × NameKind)}
theorem filt_true {α : Type} {l : List α} : (l.filter fun _ => true) = l := List.filter_eq_self.mpr fun _ _ => rfl
theorem fr_nil : FrR S [] := trivial
theorem fr_free {d : D} (h : getL x S.vars = some d) (r : FrR S l) : FrR S ((x, .free) :: l) := ⟨⟨d, h⟩, r⟩
theorem fr_local (r : FrR S l) : FrR S ((x, .local) :: l) := r
theorem fr_cell (r : FrR S l) : FrR S ((x, .cell) :: l) := r
theorem fr_gi (r : FrR S l) : FrR S ((x, .globalImplicit) :: l) := r
theorem c_two [Quiet W] {elt : PySem.Expr} {g g' : Comprehension} {scope : Scope} {di : D} {α : Type} (o : α → D) (R : α → List D) (c : α → Bool) (M : Nat) (xs : List α) (he : EvD W n nm cs S g.iter di) (hi : iterP di = some (.items (xs.map o))) (hl : xs.length * M ≤ 50000) (hR : ∀ x ∈ xs, (R x).length ≤ M) (h1 : okStat scope nm = true) (h2 : FrR S scope.names) (ha : (g.is_async == 0) = true) (ha' : (g'.is_async == 0) = true) (hf : ∀ env x, foldedSetIterable g.iter env x = pure x) (hf' : ∀ env x, foldedSetIterable g'.iter env x = pure x)
    (h : ∀ x ∈ xs, ∃ S1, bindF (relN scope nm) (ownC scope) g.target (o x) (capt scope S) = some S1 ∧ TsL W n (relN scope nm) (ownC scope) S1 g.ifs (c x) ∧ (c x = true → ∃ di es, EvD W n (relN scope nm) (ownC scope) S1 g'.iter di ∧ iterP di = some (.items es) ∧ ∀ acc k, M < k → acc.length ≤ 50000 → ClR W n (relN scope nm) (ownC scope) elt k [g'] (.items es) S1 acc (acc ++ R x))) : CmR W n nm cs elt [g, g'] scope S ((xs.filter c).flatMap R) :=
  ⟨⟨g, [g'], di, _, xs.length + M + 1, rfl, he, hi, compOk_of h1 h2, by
    have := cl2 (W := W) (n := n) (nm := relN scope nm) (cs := ownC scope) (S := capt scope S) (elt := elt) (g := g) (g' := g') o R c M xs [] (xs.length + M + 1) (Nat.lt_succ_self _) (by simpa using hl) hR h
    rw [List.nil_append] at this
    exact this⟩, by rw [List.all_cons, List.all_cons, ha, ha']; rfl, fun g'' hg' => by
    rcases List.mem_cons.mp hg' with rfl | hg'
    · exact hf
    · rw [List.mem_singleton.mp hg']; exact hf'⟩
theorem cl1T {elt : PySem.Expr} {g : Comprehension} {α : Type} (o : α → D) (f : α → D) (xs : List α) {acc : List D} {k : Nat} (hk : xs.length < k) (hz : acc.length + xs.length ≤ 100000) (h : ∀ x ∈ xs, ∃ S1, bindF nm cs g.target (o x) S = some S1 ∧ TsL W n nm cs S1 g.ifs true ∧ EvD W n nm cs S1 elt (f x)) :
    ClR W n nm cs elt k [g] (.items (xs.map o)) S acc (acc ++ xs.map f) := by
  have := cl1 (W := W) (n := n) (nm := nm) (cs := cs) (S := S) (elt := elt) (g := g) o f (fun _ => true) xs acc k hk hz fun x hx => by
    obtain ⟨S1, h1, h2, h3⟩ := h x hx
    exact ⟨S1, h1, h2, fun _ => h3⟩
  rw [filt_true] at this
  exact this
theorem c_oneT [Quiet W] {elt : PySem.Expr} {g : Comprehension} {scope : Scope} {di : D} {α : Type} (o : α → D) (f : α → D) (xs : List α) (he : EvD W n nm cs S g.iter di) (hi : iterP di = some (.items (xs.map o))) (hl : xs.length ≤ 100000) (h1 : okStat scope nm = true) (h2 : FrR S scope.names) (ha : (g.is_async == 0) = true) (hf : ∀ env x, foldedSetIterable g.iter env x = pure x)
    (h : ∀ x ∈ xs, ∃ S1, bindF (relN scope nm) (ownC scope) g.target (o x) (capt scope S) = some S1 ∧ TsL W n (relN scope nm) (ownC scope) S1 g.ifs true ∧ EvD W n (relN scope nm) (ownC scope) S1 elt (f x)) : CmR W n nm cs elt [g] scope S (xs.map f) := by
  have := c_one (elt := elt) o f (fun _ => true) xs he hi hl h1 h2 ha hf fun x hx => by
    obtain ⟨S1, h1, h2, h3⟩ := h x hx
    exact ⟨S1, h1, h2, fun _ => h3⟩
  rw [filt_true] at this
  exact this
theorem c_twoT [Quiet W] {elt : PySem.Expr} {g g' : Comprehension} {scope : Scope} {di : D} {α : Type} (o : α → D) (R : α → List D) (M : Nat) (xs : List α) (he : EvD W n nm cs S g.iter di) (hi : iterP di = some (.items (xs.map o))) (hl : xs.length * M ≤ 50000) (hR : ∀ x ∈ xs, (R x).length ≤ M) (h1 : okStat scope nm = true) (h2 : FrR S scope.names) (ha : (g.is_async == 0) = true) (ha' : (g'.is_async == 0) = true) (hf : ∀ env x, foldedSetIterable g.iter env x = pure x) (hf' : ∀ env x, foldedSetIterable g'.iter env x = pure x)
    (h : ∀ x ∈ xs, ∃ S1, bindF (relN scope nm) (ownC scope) g.target (o x) (capt scope S) = some S1 ∧ TsL W n (relN scope nm) (ownC scope) S1 g.ifs true ∧ ∃ di es, EvD W n (relN scope nm) (ownC scope) S1 g'.iter di ∧ iterP di = some (.items es) ∧ ∀ acc k, M < k → acc.length ≤ 50000 → ClR W n (relN scope nm) (ownC scope) elt k [g'] (.items es) S1 acc (acc ++ R x)) : CmR W n nm cs elt [g, g'] scope S (xs.flatMap R) := by
  have := c_two (elt := elt) o R (fun _ => true) M xs he hi hl hR h1 h2 ha ha' hf hf' fun x hx => by
    obtain ⟨S1, h1, h2, h3⟩ := h x hx
    exact ⟨S1, h1, h2, fun _ => h3⟩
  rw [filt_true] at this
  exact this
end
end
section
open PySem PySem.W PyProof.Rows PySem.Spec PySem.Calls
set_option maxRecDepth 100000
set_option maxHeartbeats 1000000
abbrev SetO (w : World) (o : Obj) (ks : List Nat) : Prop := SetX (w.params.followText "set-order") o ks
theorem small_hash : ∀ k : Fin 16, hashInt (k.val : Int) = (k.val : Int) := by decide
theorem small_hash' {k : Nat} (h : k < 16) : hashInt (k : Int) = (k : Int) := small_hash ⟨k, h⟩
section
variable {prog : Program} {w : World} {A : Around} {E : Value → Shared → Prop} {s : Shared} {a : Addr} {es : Array (Int × Value)} {ep : Nat} {t : SetTable} {ks : List Nat}
theorem en_elems (h : EnOk es.toList ks) (hlt : ∀ k ∈ ks, k < 16) : ElemsOf (intKind prog w) es.toList := by
  intro e he
  obtain ⟨tk, hv⟩ := h.2 e he
  have h1 : e.1 ∈ ks.map fun (k : Nat) => (k : Int) := by rw [← h.1]; exact List.mem_map_of_mem he
  obtain ⟨k, hk, e1⟩ := List.mem_map.mp h1
  refine ⟨⟨e.1, ?_, ?_⟩, by rw [hv]; rfl⟩
  · rw [hv]; show Value.isInt e.1 (.int e.1 tk) = true; simp [Value.isInt]
  · rw [← e1]; exact (small_hash' (hlt k hk)).symm
theorem en_find (h : EnOk es.toList ks) (k : Nat) : (k ∈ ks → ∃ j, es.toList.findIdx? (fun e => (intKind prog w).is (k : Int) e.2) = some j) ∧ (k ∉ ks → es.toList.findIdx? (fun e => (intKind prog w).is (k : Int) e.2) = none) := by
  have key : ∀ e ∈ es.toList, ((intKind prog w).is (k : Int) e.2 = true ↔ e.1 = (k : Int)) := fun e he => by
    obtain ⟨tk, hv⟩ := h.2 e he
    rw [hv]
    constructor
    · intro q
      have q : (e.1 == (k : Int)) = true := q
      exact eq_of_beq q
    · intro q
      show (e.1 == (k : Int)) = true
      rw [q]; exact beq_self_eq_true _
  have mem : (∃ e ∈ es.toList, e.1 = (k : Int)) ↔ k ∈ ks := by
    constructor
    · rintro ⟨e, he, e1⟩
      have h1 : e.1 ∈ ks.map fun (k : Nat) => (k : Int) := by rw [← h.1]; exact List.mem_map_of_mem he
      obtain ⟨k', hk, e2⟩ := List.mem_map.mp h1
      have : k' = k := by omega
      exact this ▸ hk
    · intro hk
      have h1 : (k : Int) ∈ es.toList.map (·.1) := by rw [h.1]; exact List.mem_map.mpr ⟨k, hk, rfl⟩
      obtain ⟨e, he, e1⟩ := List.mem_map.mp h1
      exact ⟨e, he, e1⟩
  constructor
  · intro hk
    obtain ⟨e, he, e1⟩ := mem.mpr hk
    cases q : es.toList.findIdx? (fun e => (intKind prog w).is (k : Int) e.2) with
    | some j => exact ⟨j, rfl⟩
    | none =>
      have := List.findIdx?_eq_none_iff.mp q e he
      rw [(key e he).mpr e1] at this
      cases this
  · intro hk
    refine List.findIdx?_eq_none_iff.mpr fun e he => ?_
    rw [← Bool.not_eq_true, key e he]
    intro e1
    exact hk (mem.mp ⟨e, he, e1⟩)
theorem sob_update {h : Heap} {es' : Array (Int × Value)} {t' : SetTable} (ho : h.get? a = some (sob es ep t)) : (h.update a (Obj.putSet es' t')).get? a = some (sob es' (ep + 1) t') := by
  have := Heap.get?_update_self (Obj.putSet es' t') ho (by rw [putSet_of es' t' rfl]; rfl)
  rw [putSet_of es' t' rfl] at this
  exact this
theorem size_line {n : Nat} (h : n ≤ 16) : n ≤ sizeLine := by rw [sizeLine_eq]; omega
theorem set_add_hashed {k : Nat} {tk : Tok} {Q : Bool → Shared → Prop} (hk : k < 16) (h15 : k ∉ ks → ks.length ≤ 15) (ho : s.heap.get? a = some (sob es ep t)) (hE : EnOk es.toList ks) (hT : TabOk t ks)
    (h1 : k ∈ ks → Q false s)
    (h2 : k ∉ ks → ∀ h' es' ep' t' ks', Heap.SameBut a s.heap h' → h'.get? a = some (sob es' ep' t') → EnOk es'.toList ks' → TabOk t' ks' → t'.led = t.led → ks'.Perm (k :: ks) → Q true { s with heap := h' }) :
    wpAny (model prog w) A (setAddHashed a (.int (k : Int) tk) (k : Int)) Q E s := by
  have hsz : es.size = ks.length := by rw [← hE.len, Array.length_toList]
  have hle : ks.length ≤ 16 := by
    have := nodup_le hT.nd (l₂ := List.range 16) fun x hx => List.mem_range.mpr (hT.lt x hx)
    rw [List.length_range] at this
    exact this
  have hf : t.fits es.size = true := by rw [hsz]; exact fits_of hT
  have hel := en_elems (prog := prog) (w := w) hE hT.lt
  have hkey : (intKind prog w).is (k : Int) (.int (k : Int) tk) = true := by show Value.isInt (k : Int) (.int (k : Int) tk) = true; simp [Value.isInt]
  have hh : (intKind prog w).hash (k : Int) = (k : Int) := small_hash' hk
  unfold setAddHashed setAddHashedIn
  refine wpAny_holding (wpAny_bind (wpAny_setState_of ho rfl hf ?_))
  dsimp only
  rw [byScan_of rfl (by unfold scanBound; omega) hel]
  simp only [↓reduceIte]
  unfold setAddByScan
  refine wpAny_bind ?_
  refine wpAny_bind (wpAny_rule ?_)
  have hscan : ∀ {Q' : ScanMet → Shared → Prop}, Q' (match es.toList.findIdx? (fun e => (intKind prog w).is (k : Int) e.2) with | some j => .found (0 + j) | none => .absent) s → wpAny (model prog w) A (setScan a (.int (k : Int) tk) (k : Int) true es) Q' E s := fun {Q'} h => by
    have := wpAny_setScan_of (prog := prog) (w := w) (A := A) (E := E) (s := s) (Q := Q') (knd := intKind prog w) (k := (k : Int)) (x := .int (k : Int) tk) (adding := true) hkey ho rfl hf hel h
    rw [hh] at this
    exact this
  by_cases hm : k ∈ ks
  · obtain ⟨j, hj⟩ := (en_find (prog := prog) (w := w) hE k).1 hm
    refine wpAny_bind (hscan ?_)
    rw [hj]
    exact wpAny_pure (wpAny_pure (h1 hm))
  · refine wpAny_bind (hscan ?_)
    rw [(en_find (prog := prog) (w := w) hE k).2 hm]
    dsimp only
    obtain ⟨p, t', e1, T1, m1, l1, f1⟩ := lay_new hT (h15 hm) hk hm hsz (.int (k : Int) tk)
    rw [e1]
    dsimp only
    have hE1 : EnOk (SetTable.insertAt es p ((k : Int), Value.int (k : Int) tk)).toList (insAt ks p k) := by
      rw [ins_list]
      refine ⟨by rw [insAt_map, hE.1, insAt_map], fun e he => ?_⟩
      rcases List.mem_cons.mp ((insAt_perm _ _ _).mem_iff.mp he) with rfl | he
      · exact ⟨tk, rfl⟩
      · exact hE.2 e he
    have hp1 := insAt_perm ks p k
    have hsz1 : (SetTable.insertAt es p ((k : Int), Value.int (k : Int) tk)).size = ks.length + 1 := by rw [← Array.length_toList, hE1.len, hp1.length_eq, List.length_cons]
    refine wpAny_bind (m := pure ()) (wpAny_pure ?_)
    rw [T1.pl, if_pos rfl]
    refine wpAny_bind ?_
    rw [hashByValue_scannable 8 rfl]
    refine wpAny_pure ?_
    rw [show plainKind (.int (k : Int) tk) = true from rfl, if_pos rfl]
    refine wpAny_bind (wpAny_storeSet_of ho rfl ?_ (by rw [hsz1]; exact size_line (by have := h15 hm; omega)))
    have ho1 := sob_update (es' := SetTable.insertAt es p ((k : Int), Value.int (k : Int) tk)) (t' := t') ho
    have hsb1 := Heap.SameBut.update s.heap a (Obj.putSet (SetTable.insertAt es p ((k : Int), Value.int (k : Int) tk)) t')
    have hfill : t'.fill = ks.length + 1 := by
      unfold SetTable.fill
      rw [T1.sz, T1.du, hp1.length_eq]
      rfl
    by_cases hfull : 5 * (ks.length + 1) < 3 * t.mask
    · have : (!false && t'.tooFull) = false := by
        unfold SetTable.tooFull
        rw [hfill, m1]
        simp
        omega
      rw [this, if_neg Bool.false_ne_true]
      refine wpAny_pure (wpAny_pure ?_)
      exact h2 hm _ _ _ _ _ hsb1 ho1 hE1 ⟨T1, by rw [hp1.length_eq, List.length_cons, m1]; exact hfull⟩ l1 hp1
    · have : (!false && t'.tooFull) = true := by
        unfold SetTable.tooFull
        rw [hfill, m1]
        simp
        omega
      rw [this, if_pos rfl]
      have hm7 : 7 ≤ t.mask := by rcases hT.sh with q | ⟨q, _⟩ <;> omega
      obtain ⟨es2, t2, ks2, e2, T2, hE2, p2, l2⟩ := relay_ok T1 hE1 (by rw [hp1.length_eq, List.length_cons]; omega) (by rw [hp1.length_eq, List.length_cons]; have := h15 hm; omega)
      rw [e2]
      dsimp only
      refine wpAny_bind (m := pure ()) (wpAny_pure ?_)
      have hsz2 : es2.size = ks.length + 1 := by rw [← Array.length_toList, hE2.len, p2.length_eq, hp1.length_eq, List.length_cons]
      refine wpAny_bind (wpAny_storeSet_of ho1 rfl ?_ (by rw [hsz2]; exact size_line (by have := h15 hm; omega)))
      refine wpAny_pure (wpAny_pure ?_)
      exact h2 hm _ _ _ _ _ (hsb1.trans (Heap.SameBut.update _ a _)) (sob_update (es' := es2) (t' := t2) ho1) hE2 T2 (l2.trans l1) (p2.trans hp1)
theorem set_add {k : Nat} {tk : Tok} {Q : Value → Shared → Prop} (hk : k < 16) (h15 : k ∉ ks → ks.length ≤ 15) {o : Obj} (ho : s.heap.get? a = some o) (hS : SetO w o ks)
    (h1 : k ∈ ks → Q .none { s with toks := s.toks + 1 })
    (h2 : k ∉ ks → ∀ h' o' ks', Heap.SameBut a s.heap h' → h'.get? a = some o' → SetO w o' ks' → ks'.Perm (k :: ks) → Q .none { s with heap := h', toks := s.toks + 1 }) :
    wpAny (model prog w) A (call (.builtin "set.add") [.ref a, .int (k : Int) tk]) Q E s := by
  obtain ⟨es, ep, t, rfl, hE, hT, hled⟩ := hS
  have hkey : (intKind prog w).is (k : Int) (.int (k : Int) tk) = true := by show Value.isInt (k : Int) (.int (k : Int) tk) = true; simp [Value.isInt]
  have hh : (intKind prog w).hash (k : Int) = (k : Int) := small_hash' hk
  refine wpAny_call_entry F.slot_set_add ⟨_, ho, rfl⟩ F.entry_set_add ?_ (F.args_set_add_2 _ _)
  unfold Builtin.«set.add» Builtin.Frozenset.oneOther
  simp only [List.isEmpty_nil, bind_assoc]
  unfold Builtin.Frozenset.addrOf setAdd
  refine wpAny_bind (wpAny_pure ?_)
  try dsimp only
  refine wpAny_bind (wpAny_pure ?_)
  try dsimp only
  refine wpAny_bind ?_
  refine wpAny_holding ?_
  refine wpAny_bind ((intKind prog w).pyHash hkey ?_)
  rw [hh]
  refine set_add_hashed (s := { s with toks := s.toks + 1 }) hk h15 ho hE hT (fun hm => ?_) fun hm h' es' ep' t' ks' hs ho' hE' hT' hl hp => ?_
  · show wpAny _ _ (ret Value.none) _ _ _
    exact wpAny_pure ⟨_, rfl, h1 hm⟩
  · show wpAny _ _ (ret Value.none) _ _ _
    exact wpAny_pure ⟨_, rfl, h2 hm h' _ ks' hs ho' ⟨es', ep', t', rfl, hE', hT', fun q => hl.trans (hled q)⟩ hp⟩
theorem tab_fresh (led : Bool) : TabOk (.fresh 0 0 led) [] := by
  refine ⟨⟨rfl, rfl, rfl, List.Pairwise.nil, ?_, List.nodup_nil, ?_, Or.inl rfl⟩, ?_⟩
  · intro _ h; cases h
  · intro _ h; cases h
  · show (0 : Nat) < 3 * 7; decide
theorem new_set {Q : Value → Shared → Prop} (h : ∀ o, SetO w o [] → o.isFreed = false → Q (.ref s.heap.objs.size) { s with heap := s.heap.push o }) : wpAny (model prog w) A (newSet (.type "set")) Q E s := by
  unfold newSet setsByText
  refine wpAny_bind (wpAny_bind (wpAny_askSetting (wpAny_pure ?_)))
  dsimp only
  simp only [newObj]
  exact wpAny_bind (wpAny_alloc (wpAny_pure (h _ ⟨#[], 0, _, rfl, ⟨rfl, fun _ h => by cases h⟩, tab_fresh _, fun q => by show (!w.params.followText "set-order") = true; rw [q]; rfl⟩ rfl)))
end
end
section
open PySem PySem.W PyProof.Rows PySem.Spec PySem.Calls
set_option maxRecDepth 100000
set_option maxHeartbeats 1000000
theorem owner_setit : Manifest.owners.lookup (String.ofList ['r', 'o', 't', 'a', 'r', 'e', 't', 'i', '_', 't', 'e', 's'].reverse) = some Manifest.sig_set_iterator := by kernel_rfl
theorem slot_setit_iter : Slot "set_iterator" "__iter__" "set_iterator.__iter__" :=
  .of (owner := "set_iterator") (n := "__iter__") (by rw [typeLookup_type, builtinLookup_eq_fast]; kernel_rfl) (by decide +kernel) (by decide +kernel) (by decide +kernel)
    (by first | exact .inl (by decide +kernel) | exact .inr (by decide +kernel)) (by rw [isSubtype_type]; kernel_rfl)
theorem entry_setit_iter : entryFor table "set_iterator.__iter__" = some Builtin.«dict_keyiterator.__iter__» :=
  entryFor_alias (id' := "dict_keyiterator.__iter__") (by kernel_rfl) rfl (by decide +kernel) (by kernel_rfl)
theorem args_setit_iter (a : Value) : argsOk "set_iterator.__iter__" ⟨[a], []⟩ := by
  unfold argsOk; rw [signature?_of (id := "set_iterator.__iter__") (n := ['_', '_', 'r', 'e', 't', 'i', '_', '_']) (o := ['r', 'o', 't', 'a', 'r', 'e', 't', 'i', '_', 't', 'e', 's']) (by kernel_rfl) owner_setit]; kernel_rfl
theorem slot_setit_next : Slot "set_iterator" "__next__" "set_iterator.__next__" :=
  .of (owner := "set_iterator") (n := "__next__") (by rw [typeLookup_type, builtinLookup_eq_fast]; kernel_rfl) (by decide +kernel) (by decide +kernel) (by decide +kernel)
    (by first | exact .inl (by decide +kernel) | exact .inr (by decide +kernel)) (by rw [isSubtype_type]; kernel_rfl)
theorem entry_setit_next : entryFor table "set_iterator.__next__" = some Builtin.«set_iterator.__next__» := entryFor_of_tree (by kernel_rfl)
theorem args_setit_next (a : Value) : argsOk "set_iterator.__next__" ⟨[a], []⟩ := by
  unfold argsOk; rw [signature?_of (id := "set_iterator.__next__") (n := ['_', '_', 't', 'x', 'e', 'n', '_', '_']) (o := ['r', 'o', 't', 'a', 'r', 'e', 't', 'i', '_', 't', 'e', 's']) (by kernel_rfl) owner_setit]; kernel_rfl
theorem entry_set_iter : entryFor table "set.__iter__" = some Builtin.«frozenset.__iter__» :=
  entryFor_alias (id' := "frozenset.__iter__") (by kernel_rfl) rfl (by decide +kernel) (by kernel_rfl)
/-- an iterator over a set that stands before element i of the walk -/
def SetIt (w : World) (h : Heap) (it a : Addr) (es : Array (Int × Value)) (ep : Nat) (t : SetTable) (i : Nat) : Prop :=
  ∃ o slot, h.get? it = some o ∧ o.cls = .type "set_iterator" ∧ o.data = .fields #[.int ((slot : Nat) : Int) 0, .int ((i : Nat) : Int) 0, .ref a, .int ((es.size : Nat) : Int) 0, .int ((ep : Nat) : Int) 0] ∧ (w.params.followText "set-order" = false → SetTable.below t.place slot = i)
section
variable {prog : Program} {w : World} {A : Around} {E : Value → Shared → Prop} {s : Shared} {it a : Addr} {es : Array (Int × Value)} {ep : Nat} {t : SetTable} {ks : List Nat}
theorem set_next {i slot : Nat} {Q : Option (Value × Nat) → Shared → Prop} (ho : s.heap.get? a = some (sob es ep t)) (hE : EnOk es.toList ks) (hT : TabOk t ks) (hled : w.params.followText "set-order" = false → t.led = true) (hsl : w.params.followText "set-order" = false → SetTable.below t.place slot = i)
    (h1 : ∀ e slot', (walkL w a ep es)[i]? = some e → (w.params.followText "set-order" = false → SetTable.below t.place slot' = i + 1) → Q (some (e.2, slot')) s) (h2 : (walkL w a ep es)[i]? = none → Q none s) : wpAny (model prog w) A (setNext a slot i ep) Q E s := by
  have hsz : es.size = ks.length := by rw [← hE.len, Array.length_toList]
  have hf : t.fits es.size = true := by rw [hsz]; exact fits_of hT
  unfold setNext
  refine wpAny_bind (wpAny_setState_of ho rfl hf ?_)
  dsimp only
  unfold setsByText
  refine wpAny_bind (wpAny_bind (wpAny_askSetting (wpAny_pure ?_)))
  unfold walkL at h1 h2
  cases ht : w.params.followText "set-order" with
  | true =>
    rw [ht] at h1 h2
    rw [if_pos rfl] at h1 h2
    have ht' : (model prog w).w.params.followText "set-order" = true := ht
    rw [ht', if_pos rfl, if_neg (by simp)]
    unfold setWalk
    refine wpAny_bind (wpAny_bind (wpAny_setState_of ho rfl hf ?_))
    dsimp only
    unfold setsByText
    refine wpAny_bind (wpAny_bind (wpAny_askSetting (wpAny_pure ?_)))
    rw [ht', if_pos rfl]
    refine wpAny_bind (wpAny_askSetting ?_)
    refine wpAny_pure (wpAny_pure ?_)
    show Q (((pickOrder (w.params.setOrder a ep) es)[i]?).map fun e => (e.2, slot)) s
    rw [← Array.getElem?_toList]
    cases q : (pickOrder (w.params.setOrder a ep) es).toList[i]? with
    | none => exact h2 q
    | some e => exact h1 e slot q fun z => Bool.noConfusion z
  | false =>
    rw [ht] at h1 h2
    rw [if_neg Bool.false_ne_true] at h1 h2
    have ht' : (model prog w).w.params.followText "set-order" = false := ht
    rw [ht', if_neg Bool.false_ne_true]
    split
    · rename_i hd
      have hd : (!t.plain && decide (es.size > 1)) = true := hd
      rw [hT.pl] at hd
      exact Bool.noConfusion hd
    · refine wpAny_bind ?_
      show wpAny _ _ (if (!t.led && !es.isEmpty) = true then unsupported "set:maker-not-led" else pure ()) _ _ _
      rw [hled ht, if_neg (by simp)]
      refine wpAny_pure (wpAny_pure ?_)
      rw [hsl ht]
      cases q : es.toList[i]? with
      | none =>
        have q' : es[i]? = none := by rw [← Array.getElem?_toList]; exact q
        rw [q']
        exact h2 q
      | some e =>
        have q' : es[i]? = some e := by rw [← Array.getElem?_toList]; exact q
        have hi : i < es.size := (Array.getElem?_eq_some_iff.mp q').1
        have hp : i < t.place.size := by rw [hT.sz, ← hsz]; exact hi
        rw [q', Array.getElem?_eq_getElem hp]
        exact h1 e _ q fun _ => below_at hT.ri (Array.getElem?_eq_getElem hp)
theorem set_item {i : Nat} {e : Int × Value} {Q : Option Value → Shared → Prop} (hit : SetIt w s.heap it a es ep t i) (ho : s.heap.get? a = some (sob es ep t)) (hE : EnOk es.toList ks) (hT : TabOk t ks) (hled : w.params.followText "set-order" = false → t.led = true)
    (he : (walkL w a ep es)[i]? = some e) (hQ : ∀ h', SetIt w h' it a es ep t (i + 1) → Heap.SameBut it s.heap h' → Q (some e.2) { s with heap := h' }) : wpAny (model prog w) A (pyNext (.ref it)) Q E s := by
  obtain ⟨o, slot, hio, hc, hd, hsl⟩ := hit
  have hT' : s.TypeIs (.ref it) "set_iterator" := ⟨o, hio, hc⟩
  have hsz : es.size = ks.length := by rw [← hE.len, Array.length_toList]
  have hf : t.fits es.size = true := by rw [hsz]; exact fits_of hT
  unfold pyNext
  refine wpAny_bind (wpAny_attempt (wpAny_callSpecial?_slot (name := Str.ofString "__next__") hT' slot_setit_next (wpAny_call_entry slot_setit_next hT' entry_setit_next ?_ (args_setit_next _))))
  unfold Builtin.«set_iterator.__next__»
  refine wpAny_bind (m := slotArgs _ _ _) (wpAny_pure ?_)
  refine wpAny_bind (wpAny_fieldsOf hio hd ?_)
  dsimp only
  refine wpAny_bind (wpAny_setEntries_of ho rfl hf ?_)
  rw [if_neg (by simp)]
  simp only [Int.toNat_natCast]
  refine wpAny_bind (set_next (i := i) (slot := slot) ho hE hT hled hsl (fun e' slot' q hs' => ?_) fun q => ?_)
  · rw [he] at q
    cases q
    dsimp only
    have u1 : (s.heap.update it (Obj.mapFields (·.setIfInBounds 0 (rawInt (slot' : Int))))).get? it = some (Obj.mapFields (·.setIfInBounds 0 (rawInt (slot' : Int))) o) := Heap.get?_update_self _ hio (Obj.isFreed_of_fields (Obj.data_mapFields hd _))
    have d1 := Obj.data_mapFields hd (·.setIfInBounds 0 (rawInt (slot' : Int)))
    refine wpAny_bind (wpAny_setField hio hd (by simp) ?_)
    refine wpAny_bind (wpAny_setField u1 d1 (by simp) ?_)
    refine wpAny_pure ⟨_, rfl, wpAny_pure (hQ _ ⟨_, slot', Heap.get?_update_self _ u1 (Obj.isFreed_of_fields (Obj.data_mapFields d1 _)), ?_, ?_, hs'⟩ ?_)⟩
    · exact (Obj.cls_mapFields ..).trans ((Obj.cls_mapFields ..).trans hc)
    · rw [Obj.data_mapFields d1]
      simp [rawInt]
    · exact (Heap.SameBut.update ..).trans (Heap.SameBut.update ..)
  · rw [he] at q
    cases q
theorem set_end {i : Nat} {Q : Option Value → Shared → Prop} (hh : A.handled = none) (hit : SetIt w s.heap it a es ep t i) (ho : s.heap.get? a = some (sob es ep t)) (hE : EnOk es.toList ks) (hT : TabOk t ks) (hled : w.params.followText "set-order" = false → t.led = true)
    (he : (walkL w a ep es)[i]? = none) (hQ : ∀ h', Heap.ExtBut it s.heap h' → Q none { s with heap := h' }) : wpAny (model prog w) A (pyNext (.ref it)) Q E s := by
  obtain ⟨o, slot, hio, hc, hd, hsl⟩ := hit
  have hT' : s.TypeIs (.ref it) "set_iterator" := ⟨o, hio, hc⟩
  have hsz : es.size = ks.length := by rw [← hE.len, Array.length_toList]
  have hf : t.fits es.size = true := by rw [hsz]; exact fits_of hT
  unfold pyNext
  refine wpAny_bind (wpAny_attempt (wpAny_callSpecial?_slot (name := Str.ofString "__next__") hT' slot_setit_next (wpAny_call_entry slot_setit_next hT' entry_setit_next ?_ (args_setit_next _))))
  unfold Builtin.«set_iterator.__next__»
  refine wpAny_bind (m := slotArgs _ _ _) (wpAny_pure ?_)
  refine wpAny_bind (wpAny_fieldsOf hio hd ?_)
  dsimp only
  refine wpAny_bind (wpAny_setEntries_of ho rfl hf ?_)
  rw [if_neg (by simp)]
  simp only [Int.toNat_natCast]
  refine wpAny_bind (set_next (i := i) (slot := slot) ho hE hT hled hsl (fun e' slot' q hs' => ?_) fun q => ?_)
  · rw [he] at q
    cases q
  · dsimp only
    refine wpAny_bind (wpAny_setField hio hd (by simp) ?_)
    refine wpAny_bind ?_
    simp only [newExc, newTuple]
    refine wpAny_bind (wpAny_newObj_type ?_ (by size_fits))
    refine wpAny_bind (m := firstArgMember _ _) (wpAny_of_eq (a := Value.none) (by first | rfl | (simp only [firstArgMember]; rfl)) ?_)
    refine wpAny_newObj_type ?_ (by size_fits)
    simp only [raiseNew]
    refine wpAny_bind (wpAny_handled ?_)
    rw [show A.in1.handled = none from hh]
    refine wpAny_bind (wpAny_pure (wpAny_throw ?_))
    refine wpAny_bind (wpAny_isInstance (T := "StopIteration") (b := true) ⟨_, Heap.get?_push_size _ rfl, rfl⟩ isSubtype_stop ?_)
    exact wpAny_pure (hQ _ (((Heap.SameBut.update ..).extBut.push _).push _))
theorem set_iter_self {i : Nat} {Q : Value → Shared → Prop} (hit : SetIt w s.heap it a es ep t i) (h : Q (.ref it) s) : wpAny (model prog w) A (pyIter (.ref it)) Q E s := by
  obtain ⟨o, slot, hio, hc, hd, hsl⟩ := hit
  have hT' : s.TypeIs (.ref it) "set_iterator" := ⟨o, hio, hc⟩
  refine wpAny_pyIter_slot hT' slot_setit_iter (wpAny_call_entry slot_setit_iter hT' entry_setit_iter ?_ (args_setit_iter _))
  show wpAny _ _ (ret (.ref it)) _ _ s
  exact wpAny_pure ⟨_, rfl, "set_iterator", _, hT', slot_setit_next.lookup, h⟩
theorem set_iter {Q : Value → Shared → Prop} (ho : s.heap.get? a = some (sob es ep t)) (hE : EnOk es.toList ks) (hT : TabOk t ks)
    (hQ : ∀ o : Obj, o.isFreed = false → (∃ vs, o.data = .fields vs) → SetIt w (s.heap.push o) s.heap.objs.size a es ep t 0 → Q (.ref s.heap.objs.size) { s with heap := s.heap.push o }) : wpAny (model prog w) A (pyIter (.ref a)) Q E s := by
  have hTs : s.TypeIs (.ref a) "set" := ⟨_, ho, rfl⟩
  have hsz : es.size = ks.length := by rw [← hE.len, Array.length_toList]
  have hf : t.fits es.size = true := by rw [hsz]; exact fits_of hT
  refine wpAny_pyIter_slot hTs F.slot_set_iter (wpAny_call_entry F.slot_set_iter hTs entry_set_iter ?_ (F.args_set_iter_1 _))
  unfold Builtin.«frozenset.__iter__» Builtin.Frozenset.slot0
  refine wpAny_bind (m := (do Builtin.Frozenset.addrOf (← slotArgs "__iter__" 0 ⟨[.ref a], []⟩).1 : Sem Addr)) (wpAny_pure ?_)
  unfold Builtin.Frozenset.sizeOf
  refine wpAny_bind (wpAny_bind (wpAny_setEntries_of ho rfl hf (wpAny_pure ?_)))
  unfold setDrawn
  refine wpAny_bind (wpAny_bind (wpAny_setState_of ho rfl hf ?_))
  dsimp only
  unfold setsByText
  refine wpAny_bind (wpAny_bind (wpAny_askSetting (wpAny_pure ?_)))
  refine wpAny_pure ?_
  have hnd : (!w.params.followText "set-order" && (!t.plain && decide (es.size > 1))) = false := by rw [hT.pl]; simp
  split
  · rename_i q
    exact Bool.noConfusion (hnd.symm.trans q)
  refine wpAny_bind (wpAny_pure ?_)
  unfold setEpoch
  refine wpAny_bind (wpAny_bind (wpAny_setState_of ho rfl hf (wpAny_pure ?_)))
  refine wpAny_bind (wpAny_newObj_type (wpAny_pure ⟨_, rfl, "set_iterator", _, ⟨_, Heap.get?_push_size _ rfl, rfl⟩, slot_setit_next.lookup, ?_⟩))
  exact hQ _ rfl ⟨_, rfl⟩ ⟨_, 0, Heap.get?_push_size _ rfl, rfl, rfl, fun _ => below_zero hT.ri⟩
theorem set_len {Q : Value → Shared → Prop} (ho : s.heap.get? a = some (sob es ep t)) (hE : EnOk es.toList ks) (hT : TabOk t ks) (hle : ks.length ≤ 16) (h : Q (.int (ks.length : Int) (s.toks + 1)) { s with toks := s.toks + 1 + 1 }) : wpAny (model prog w) A (call (.builtin "len") [.ref a]) Q E s := by
  have hsz : es.size = ks.length := by rw [← hE.len, Array.length_toList]
  have hf : t.fits es.size = true := by rw [hsz]; exact fits_of hT
  refine call_len_set ho ⟨rfl, rfl, rfl⟩ rfl hf (by rw [hsz]; omega) ?_
  rw [hsz]
  exact h
end
end
section
open PySem PySem.W PyProof.Rows PySem.Spec PySem.Calls
set_option maxRecDepth 100000
set_option maxHeartbeats 1000000
section
variable {prog : Program} {w : World} {A : Around} {E : Value → Shared → Prop} {s : Shared} {a b : Addr} {es es2 : Array (Int × Value)} {ep ep2 : Nat} {t t2 : SetTable} {ks ks2 : List Nat}
theorem len16 {t : SetTable} {ks : List Nat} (T : TabR t ks) : ks.length ≤ 16 := by
  have := nodup_le T.nd (l₂ := List.range 16) fun x hx => List.mem_range.mpr (T.lt x hx)
  rw [List.length_range] at this
  exact this
/-- room for more -/
theorem set_room {more : Nat} {Q : Unit → Shared → Prop} (hm : more ≤ 16) (ho : s.heap.get? a = some (sob es ep t)) (hE : EnOk es.toList ks) (hT : TabOk t ks)
    (hQ : ∀ h' es' ep' t' ks', Heap.SameBut a s.heap h' → h'.get? a = some (sob es' ep' t') → EnOk es'.toList ks' → TabOk t' ks' → t'.led = t.led → ks'.Perm ks → 5 * (ks.length + more) < 3 * t'.mask → Q () { s with heap := h' }) :
    wpAny (model prog w) A (setRoomFor a more) Q E s := by
  have hsz : es.size = ks.length := by rw [← hE.len, Array.length_toList]
  have hle := len16 hT.toTabR
  have hf : t.fits es.size = true := by rw [hsz]; exact fits_of hT
  have hfill : t.fill = ks.length := by
    unfold SetTable.fill
    rw [hT.sz, hT.du]
    rfl
  unfold setRoomFor
  refine wpAny_bind (wpAny_setState_of ho rfl hf ?_)
  unfold SetTable.roomFor
  dsimp only
  by_cases hc : (t.fill + more) * 5 ≥ t.mask * 3
  · rw [if_pos hc]
    dsimp only
    unfold setRelay
    refine wpAny_bind (wpAny_setState_of ho rfl hf ?_)
    dsimp only
    have hm7 : 7 ≤ t.mask := by rcases hT.sh with q | ⟨q, _⟩ <;> omega
    obtain ⟨g1, g2, g3⟩ := room_ok ⟨ks.length + more, by omega⟩ (by show 5 ≤ ks.length + more; omega)
    dsimp only at g1 g2 g3
    rw [hT.sz]
    rw [if_neg (by rw [sizeLine_eq]; omega)]
    obtain ⟨t', ord, h1, h2, h3, h4, h6, h7⟩ := laid_tab (.inr g1) hT.nd hT.lt (by omega) hE t.finger (t.movedTo (SetTable.sizeAbove ((ks.length + more) * 2) - 1)) t.led
    obtain ⟨p1, p2, p3⟩ := hE.reorder h6
    have hr : t.relaid (es.map (·.1)) ((ks.length + more) * 2) = some (t', ord.toArray) := by
      unfold SetTable.relaid
      rw [hT.pl]
      exact h1
    rw [hr]
    have hsz' : (ord.toArray.filterMap (es[·]?)).size = es.size := by rw [← Array.length_toList, p1.length_eq, Array.length_toList]
    refine wpAny_bind (wpAny_of_eq (a := (ord.toArray.filterMap (es[·]?), t')) ?_ ?_)
    · show (if ((ord.toArray.filterMap (es[·]?)).size != es.size) = true then _ else _) = _
      rw [if_neg (by rw [hsz']; simp)]
    · dsimp only
      refine wpAny_storeSet_of ho rfl ?_ (by rw [hsz', hsz]; exact size_line hle)
      exact hQ _ _ _ _ _ (Heap.SameBut.update s.heap a _) (sob_update (es' := ord.toArray.filterMap (es[·]?)) (t' := t') ho) p2 h2 h3 p3 (by rw [h4]; exact g2)
  · rw [if_neg hc]
    exact wpAny_pure (hQ s.heap es ep t ks (.refl _ _) ho hE hT rfl (.refl _) (by omega))
theorem set_walk {Q : Array (Int × Value) → Shared → Prop} (ho : s.heap.get? a = some (sob es ep t)) (hE : EnOk es.toList ks) (hT : TabOk t ks) (hled : w.params.followText "set-order" = false → t.led = true) (hQ : ∀ arr : Array (Int × Value), arr.toList = walkL w a ep es → Q arr s) :
    wpAny (model prog w) A (setWalk a) Q E s := by
  have hsz : es.size = ks.length := by rw [← hE.len, Array.length_toList]
  have hf : t.fits es.size = true := by rw [hsz]; exact fits_of hT
  unfold setWalk
  refine wpAny_bind (wpAny_setState_of ho rfl hf ?_)
  dsimp only
  unfold setsByText
  refine wpAny_bind (wpAny_bind (wpAny_askSetting (wpAny_pure ?_)))
  cases ht : w.params.followText "set-order" with
  | true =>
    have ht' : (model prog w).w.params.followText "set-order" = true := ht
    rw [ht', if_pos rfl]
    refine wpAny_bind (wpAny_askSetting (wpAny_pure (hQ _ ?_)))
    unfold walkL
    rw [if_pos ht]
    rfl
  | false =>
    have ht' : (model prog w).w.params.followText "set-order" = false := ht
    rw [ht', if_neg Bool.false_ne_true]
    split
    · rename_i hd
      have hd : (!t.plain && decide (es.size > 1)) = true := hd
      rw [hT.pl] at hd
      exact Bool.noConfusion hd
    · refine wpAny_bind (wpAny_of_eq (a := ()) ?_ (wpAny_pure (hQ _ ?_)))
      · show (if (!t.led && decide (es.size > 1)) = true then unsupported "set:maker-not-led" else pure ()) = _
        rw [hled ht, if_neg (by simp)]
      · unfold walkL
        rw [if_neg (by rw [ht]; exact Bool.false_ne_true)]
theorem set_walk_unseen {f : Addr} {Q : Array (Int × Value) → Shared → Prop} (ho : s.heap.get? b = some (sob es ep t)) (hE : EnOk es.toList ks) (hT : TabOk t ks) (hled : w.params.followText "set-order" = false → t.led = true) (hQ : ∀ arr : Array (Int × Value), arr.toList = walkL w b ep es → Q arr s) :
    wpAny (model prog w) A (setWalkUnseen b [a] (some f)) Q E s := by
  have hsz : es.size = ks.length := by rw [← hE.len, Array.length_toList]
  have hf : t.fits es.size = true := by rw [hsz]; exact fits_of hT
  unfold setWalkUnseen
  refine wpAny_bind (wpAny_setState_of ho rfl hf ?_)
  dsimp only
  unfold setsByText
  refine wpAny_bind (wpAny_bind (wpAny_askSetting (wpAny_pure ?_)))
  have hc : (w.params.followText "set-order" || (t.led && t.plain) || decide (es.size ≤ 1)) = true := by
    cases ht : w.params.followText "set-order" with
    | true => rfl
    | false => rw [hled ht, hT.pl]; rfl
  split
  · exact set_walk ho hE hT hled hQ
  · rename_i q
    exact absurd hc q
/-- what a merge leaves in its target -/
def MergeQ (w : World) (s : Shared) (a : Addr) (ks ks2 : List Nat) (Q : Unit → Shared → Prop) : Prop :=
  ∀ h' es' ep' t' ks', Heap.SameBut a s.heap h' → h'.get? a = some (sob es' ep' t') → EnOk es'.toList ks' → TabOk t' ks' → (w.params.followText "set-order" = false → t'.led = true) → (∀ k, k ∈ ks' ↔ k ∈ ks ∨ k ∈ ks2) → Q () { s with heap := h' }
theorem merge_loop {each : Sem Unit} (heach : ∀ (s₁ : Shared) (Q' : Unit → Shared → Prop), s₁.heap.get? b = some (sob es2 ep2 t2) → Q' () s₁ → wpAny (model prog w) A each Q' E s₁) (hab : b ≠ a) (hf2 : t2.fits es2.size = true) :
    ∀ (l : List (Int × Value)) (ls : List Nat) (s : Shared) (es : Array (Int × Value)) (ep : Nat) (t : SetTable) (ks : List Nat) (Q : Unit → Shared → Prop), EnOk l ls → (∀ k ∈ ls, k < 16) → s.heap.get? b = some (sob es2 ep2 t2) → s.heap.get? a = some (sob es ep t) → EnOk es.toList ks → TabOk t ks → (w.params.followText "set-order" = false → t.led = true) →
      MergeQ w s a ks ls Q → wpAny (model prog w) A (forIn l PUnit.unit fun (e : Int × Value) (_ : PUnit) => do
        let _ ← holding [e.2] (setAddHashed a e.2 e.1)
        each
        if ((← setState b).2.1 != ep2) = true then do unsupported "set.changed-during-merge"; pure (ForInStep.yield PUnit.unit) else pure (ForInStep.yield PUnit.unit)) Q E s := by
  intro l
  induction l with
  | nil =>
    intro ls s es ep t ks Q hl hlt hb ho hE hT hled hQ
    have : ls = [] := by
      have := hl.1
      cases ls with
      | nil => rfl
      | cons _ _ => cases this
    subst this
    rw [List.forIn_nil]
    exact wpAny_pure (hQ s.heap es ep t ks (.refl _ _) ho hE hT hled fun k => by simp)
  | cons e l ih =>
    intro ls s es ep t ks Q hl hlt hb ho hE hT hled hQ
    cases ls with
    | nil => cases hl.1
    | cons k ls =>
      have hek : e.1 = (k : Int) := by have := hl.1; rw [List.map_cons, List.map_cons] at this; exact (List.cons.inj this).1
      obtain ⟨tk, hv⟩ := hl.2 e (.head _)
      have hl' : EnOk l ls := ⟨by have := hl.1; rw [List.map_cons, List.map_cons] at this; exact (List.cons.inj this).2, fun x hx => hl.2 x (.tail _ hx)⟩
      have hk : k < 16 := hlt k (.head _)
      rw [List.forIn_cons, hv, hek]
      refine wpAny_bind (wpAny_bind (wpAny_holding (set_add_hashed hk (fun hm => ?_) ho hE hT (fun hm => ?_) fun hm h' es' ep' t' ks' hs ho' hE' hT' hl3 hp => ?_)))
      · have := nodup_le (l₁ := k :: ks) (List.nodup_cons.mpr ⟨hm, hT.nd⟩) (l₂ := List.range 16) fun x hx => List.mem_range.mpr (by
          rcases List.mem_cons.mp hx with rfl | hx
          · exact hk
          · exact hT.lt x hx)
        rw [List.length_range, List.length_cons] at this
        omega
      · refine wpAny_bind (heach _ _ hb ?_)
        refine wpAny_bind (wpAny_setState_of hb rfl hf2 ?_)
        rw [if_neg (by simp)]
        refine wpAny_pure ?_
        refine ih ls s es ep t ks Q hl' (fun x hx => hlt x (.tail _ hx)) hb ho hE hT hled fun h' es' ep' t' ks' q1 q2 q3 q4 q5 q6 => hQ h' es' ep' t' ks' q1 q2 q3 q4 q5 fun x => ?_
        rw [q6 x, List.mem_cons]
        constructor
        · rintro (q | q)
          · exact .inl q
          · exact .inr (.inr q)
        · rintro (q | rfl | q)
          · exact .inl q
          · exact .inl hm
          · exact .inr q
      · have hb' : h'.get? b = some (sob es2 ep2 t2) := (hs.2 b hab).trans hb
        refine wpAny_bind (heach _ _ hb' ?_)
        refine wpAny_bind (wpAny_setState_of (s := { s with heap := h' }) hb' rfl hf2 ?_)
        rw [if_neg (by simp)]
        refine wpAny_pure ?_
        refine ih ls { s with heap := h' } es' ep' t' ks' Q hl' (fun x hx => hlt x (.tail _ hx)) hb' ho' hE' hT' (fun q => hl3.trans (hled q)) fun h2 es2' ep2' t2' ks2' q1 q2 q3 q4 q5 q6 => hQ h2 es2' ep2' t2' ks2' (hs.trans q1) q2 q3 q4 q5 fun x => ?_
        rw [q6 x, hp.mem_iff, List.mem_cons, List.mem_cons]
        constructor
        · rintro ((q | q) | q)
          · exact .inr (.inl q)
          · exact .inl q
          · exact .inr (.inr q)
        · rintro (q | q | q)
          · exact .inl (.inr q)
          · exact .inl (.inl q)
          · exact .inr q
theorem set_merge {each : Sem Unit} (heach : ∀ (s₁ : Shared) (Q' : Unit → Shared → Prop), s₁.heap.get? b = some (sob es2 ep2 t2) → Q' () s₁ → wpAny (model prog w) A each Q' E s₁) {Q : Unit → Shared → Prop} (hab : b ≠ a) (hb : s.heap.get? b = some (sob es2 ep2 t2)) (hE2 : EnOk es2.toList ks2) (hT2 : TabOk t2 ks2) (hled2 : w.params.followText "set-order" = false → t2.led = true)
    (ho : s.heap.get? a = some (sob es ep t)) (hE : EnOk es.toList ks) (hT : TabOk t ks) (hled : w.params.followText "set-order" = false → t.led = true) (hQ : MergeQ w s a ks ks2 Q) : wpAny (model prog w) A (setMerge a b each) Q E s := by
  have hsz2 : es2.size = ks2.length := by rw [← hE2.len, Array.length_toList]
  have hf2 : t2.fits es2.size = true := by rw [hsz2]; exact fits_of hT2
  have hle2 := len16 hT2.toTabR
  unfold setMerge
  rw [if_neg (by simp; exact fun q => hab q.symm)]
  refine wpAny_bind (wpAny_setState_of hb rfl hf2 ?_)
  dsimp only
  by_cases hem : es2.isEmpty = true
  · rw [if_pos hem]
    have h0 : ks2 = [] := List.eq_nil_of_length_eq_zero (by rw [← hsz2]; simpa using hem)
    subst h0
    exact wpAny_pure (hQ s.heap es ep t ks (.refl _ _) ho hE hT hled fun k => by simp)
  rw [if_neg hem]
  refine wpAny_bind (set_room (by rw [hsz2]; exact hle2) ho hE hT fun h1 es1 ep1 t1 ks1 hs1 ho1 hE1 hT1 hl1 hp1 hr1 => ?_)
  have hb1 : h1.get? b = some (sob es2 ep2 t2) := (hs1.2 b hab).trans hb
  have hsz1 : es1.size = ks1.length := by rw [← hE1.len, Array.length_toList]
  have hf1 : t1.fits es1.size = true := by rw [hsz1]; exact fits_of hT1
  have hfill1 : t1.fill = ks1.length := by
    unfold SetTable.fill
    rw [hT1.sz, hT1.du]
    rfl
  have hled1 : w.params.followText "set-order" = false → t1.led = true := fun q => hl1.trans (hled q)
  refine wpAny_bind (wpAny_setState_of (s := { s with heap := h1 }) ho1 rfl hf1 ?_)
  dsimp only
  rw [hsz2] at hr1
  cases hroad : t1.road t2 with
  | slotForSlot =>
    have h0 : ks1 = [] ∧ t1.mask = t2.mask := by
      unfold SetTable.road at hroad
      split at hroad
      · cases hroad
      · rename_i q
        split at hroad
        · rename_i q2
          refine ⟨List.eq_nil_of_length_eq_zero (by rw [← hfill1]; simpa using q), ?_⟩
          rw [Bool.and_eq_true] at q2
          exact eq_of_beq q2.1
        · cases hroad
    have hk0 : ks = [] := by rw [h0.1] at hp1; exact hp1.symm.eq_nil
    dsimp only
    refine wpAny_storeSet_of (s := { s with heap := h1 }) ho1 rfl ?_ (by rw [hsz2]; exact size_line hle2)
    refine hQ _ es2 _ _ ks2 (hs1.trans (Heap.SameBut.update h1 a _)) (sob_update (es' := es2) ho1) hE2 ⟨⟨by show (t1.plain && t2.plain) = true; rw [hT1.pl, hT2.pl]; rfl, hT2.du, hT2.sz, hT2.ri, hT2.le, hT2.nd, hT2.lt, hT2.sh⟩, hT2.ro⟩ (fun q => by show (t1.led && t2.led) = true; rw [hled1 q, hled2 q]; rfl) fun k => by rw [hk0]; simp
  | clean =>
    have h0 : ks1 = [] := by
      unfold SetTable.road at hroad
      split at hroad
      · cases hroad
      · rename_i q
        exact List.eq_nil_of_length_eq_zero (by rw [← hfill1]; simpa using q)
    have hk0 : ks = [] := by rw [h0] at hp1; exact hp1.symm.eq_nil
    dsimp only
    obtain ⟨t', ord, g1, g2, g3, g4, g6, g7⟩ := laid_tab (mask := t1.mask) (hT1.sh.imp id fun q => q.1) hT2.nd hT2.lt (by rw [hk0] at hr1; simpa using hr1) hE2 t1.finger t1.moves (t1.led && t2.led)
    obtain ⟨p1, p2, p3⟩ := hE2.reorder g6
    rw [hT1.pl, hT2.pl, Bool.and_self, g1]
    have hsz' : (ord.toArray.filterMap (es2[·]?)).size = es2.size := by rw [← Array.length_toList, p1.length_eq, Array.length_toList]
    refine wpAny_bind (wpAny_of_eq (a := (ord.toArray.filterMap (es2[·]?), t')) ?_ ?_)
    · show (if ((ord.toArray.filterMap (es2[·]?)).size != es2.size) = true then _ else _) = _
      rw [if_neg (by rw [hsz']; simp)]
    · dsimp only
      refine wpAny_storeSet_of (s := { s with heap := h1 }) ho1 rfl ?_ (by rw [hsz', hsz2]; exact size_line hle2)
      refine hQ _ _ _ t' _ (hs1.trans (Heap.SameBut.update h1 a _)) (sob_update (es' := ord.toArray.filterMap (es2[·]?)) (t' := t') ho1) p2 g2 (fun q => by rw [g3, hled1 q, hled2 q]; rfl) fun k => by rw [hk0, p3.mem_iff]; simp
  | oneByOne =>
    dsimp only
    refine wpAny_bind (set_walk_unseen (s := { s with heap := h1 }) hb1 hE2 hT2 hled2 fun arr harr => ?_)
    have hperm := walk_perm w b ep2 es2
    rw [← harr] at hperm
    have hkeys : ∀ e ∈ arr.toList, ∃ k ∈ ks2, e.1 = ((k : Nat) : Int) := fun e he => by
      have h1 : e.1 ∈ ks2.map fun (k : Nat) => (k : Int) := by rw [← hE2.1]; exact List.mem_map_of_mem (hperm.mem_iff.mp he)
      obtain ⟨k, hk, e1⟩ := List.mem_map.mp h1
      exact ⟨k, hk, e1.symm⟩
    have hL : EnOk arr.toList (arr.toList.map fun e => e.1.toNat) := by
      refine ⟨?_, fun e he => hE2.2 e (hperm.mem_iff.mp he)⟩
      rw [List.map_map]
      refine List.map_congr_left fun e he => ?_
      obtain ⟨k, _, e1⟩ := hkeys e he
      show e.1 = ((e.1.toNat : Nat) : Int)
      rw [e1]
      rfl
    have hmem : ∀ k, k ∈ (arr.toList.map fun e => e.1.toNat) ↔ k ∈ ks2 := fun k => by
      rw [List.mem_map]
      constructor
      · rintro ⟨e, he, rfl⟩
        obtain ⟨k, hk, e1⟩ := hkeys e he
        rw [e1]
        exact hk
      · intro hk
        have h1 : (k : Int) ∈ es2.toList.map (·.1) := by rw [hE2.1]; exact List.mem_map.mpr ⟨k, hk, rfl⟩
        obtain ⟨e, he, e1⟩ := List.mem_map.mp h1
        exact ⟨e, hperm.mem_iff.mpr he, by rw [e1]; rfl⟩
    rw [← Array.forIn_toList]
    refine wpAny_bind (merge_loop heach hab hf2 arr.toList _ { s with heap := h1 } es1 ep1 t1 ks1 _ hL (fun k hk => hT2.lt k ((hmem k).mp hk)) hb1 ho1 hE1 hT1 hled1 fun h' es' ep' t' ks' q1 q2 q3 q4 q5 q6 => wpAny_pure (hQ h' es' ep' t' ks' (hs1.trans q1) q2 q3 q4 q5 fun k => ?_))
    rw [q6 k, hp1.mem_iff, hmem]
theorem entry_set_or : entryFor table "set.__or__" = some Builtin.«frozenset.__or__» :=
  entryFor_alias (id' := "frozenset.__or__") (by kernel_rfl) rfl (by decide +kernel) (by kernel_rfl)
theorem set_or {o o2 : Obj} {Q : Value → Shared → Prop} (ho : s.heap.get? a = some o) (hS : SetO w o ks) (hb : s.heap.get? b = some o2) (hS2 : SetO w o2 ks2)
    (hQ : ∀ h' o' ks', (∀ c oc, s.heap.get? c = some oc → h'.get? c = some oc) → h'.get? s.heap.objs.size = some o' → SetO w o' ks' → (∀ k, k ∈ ks' ↔ k ∈ ks ∨ k ∈ ks2) → Q (.ref s.heap.objs.size) { s with heap := h' }) :
    wpAny (model prog w) A (binaryOp .BitOr (.ref a) (.ref b)) Q E s := by
  obtain ⟨es, ep, t, rfl, hE, hT, hled⟩ := hS
  obtain ⟨es2, ep2, t2, rfl, hE2, hT2, hled2⟩ := hS2
  have hTa : s.TypeIs (.ref a) "set" := ⟨_, ho, rfl⟩
  have hTb : s.TypeIs (.ref b) "set" := ⟨_, hb, rfl⟩
  refine wpAny_binaryOp_same hTa hTb F.fills_set_or F.slot_set_or (wpAny_call_entry F.slot_set_or hTa entry_set_or ?_ (F.args_set_or_2 _ _))
  unfold Builtin.«frozenset.__or__»
  show wpAny _ _ (Builtin.Frozenset.slot1 "__or__" ⟨[.ref a, .ref b], []⟩ >>= _) _ _ _
  refine wpAny_bind (wpAny_of_eq (a := (Value.ref a, Value.ref b)) rfl ?_)
  dsimp only
  have any : ∀ (s₁ : Shared) (c : Addr) (Q' : Bool → Shared → Prop) (A' : Around) (E' : Value → Shared → Prop), s₁.TypeIs (.ref c) "set" → Q' true s₁ → wpAny (model prog w) A' (Builtin.Frozenset.isAnySet (.ref c)) Q' E' s₁ := fun s₁ c Q' A' E' h1 h2 => by
    unfold Builtin.Frozenset.isAnySet
    show wpAny _ _ (isInstance (.ref c) (.type "set") >>= _) _ _ _
    refine wpAny_bind (wpAny_isInstance (T := "set") (b := true) h1 sub_set_self ?_)
    exact wpAny_pure h2
  rw [if_neg Bool.false_ne_true]
  dsimp only
  refine wpAny_bind ?_
  show wpAny _ _ (Builtin.Frozenset.isAnySet (Value.ref a) >>= _) _ _ _
  refine wpAny_bind (any s a _ _ _ hTa ?_)
  refine any s b _ _ _ hTb ?_
  rw [if_neg (by decide)]
  refine wpAny_bind (wpAny_of_eq (a := a) rfl ?_)
  refine wpAny_bind ?_
  show wpAny _ _ (Builtin.Frozenset.copyOf a >>= _) _ _ _
  unfold Builtin.Frozenset.copyOf Builtin.Frozenset.baseOf
  refine wpAny_bind (wpAny_bind (wpAny_bind (wpAny_isInstance (T := "set") (b := true) hTa sub_set_self ?_)))
  rw [if_pos rfl]
  refine wpAny_pure ?_
  refine wpAny_bind (new_set fun o0 hS0 hf0 => ?_)
  obtain ⟨es0, ep0, t0, rfl, hE0, hT0, hled0⟩ := hS0
  refine wpAny_bind (wpAny_of_eq (a := s.heap.objs.size) rfl ?_)
  have hn : s.heap.get? s.heap.objs.size = none := Heap.get?_none_of_le (Nat.le_refl _)
  have h0 : (s.heap.push (sob es0 ep0 t0)).get? s.heap.objs.size = some (sob es0 ep0 t0) := Heap.get?_push_size _ hf0
  have keep0 : ∀ c oc, s.heap.get? c = some oc → (s.heap.push (sob es0 ep0 t0)).get? c = some oc := fun c oc e => Heap.get?_push_of_some _ e
  have ne : ∀ c oc, s.heap.get? c = some oc → c ≠ s.heap.objs.size := fun c oc e q => by rw [q, hn] at e; cases e
  refine wpAny_bind (set_merge (b := a) (s := { s with heap := s.heap.push (sob es0 ep0 t0) }) (fun s₁ Q' _ q => wpAny_pure q) (ne _ _ ho) (keep0 _ _ ho) hE hT hled h0 hE0 hT0 hled0 fun h1 es1 ep1 t1 ks1 hs1 ho1 hE1 hT1 hl1 hm1 => ?_)
  have keep1 : ∀ c oc, s.heap.get? c = some oc → h1.get? c = some oc := fun c oc e => (hs1.2 c (ne c oc e)).trans (keep0 c oc e)
  refine wpAny_pure ?_
  by_cases hab : b = a
  · subst hab
    rw [if_neg (by simp)]
    refine wpAny_pure ?_
    refine wpAny_pure ⟨_, rfl, (fun q => by cases q), ?_⟩
    refine hQ h1 _ ks1 keep1 ho1 ⟨es1, ep1, t1, rfl, hE1, hT1, hl1⟩ fun k => ?_
    have e2 := Option.some.inj (ho.symm.trans hb)
    cases e2
    have h3 := congrArg (List.map Int.toNat) (hE.1.symm.trans hE2.1)
    have hkk : ks = ks2 := by simpa [List.map_map, Function.comp_def] using h3
    rw [hm1, ← hkk, or_self_iff]
    exact ⟨fun q => q.resolve_left (fun q => nomatch q), .inr⟩
  have hne : (Value.ref b != Value.ref a) = true := by
    rw [bne_iff_ne]
    intro q
    cases q
    exact hab rfl
  rw [if_pos hne]
  refine wpAny_bind (wpAny_of_eq (a := s.heap.objs.size) rfl ?_)
  refine wpAny_bind (wpAny_holding ?_)
  unfold Builtin.Frozenset.updateFrom
  have hb1 := keep1 _ _ hb
  refine wpAny_bind (any { s with heap := h1 } b _ _ _ ⟨_, hb1, rfl⟩ ?_)
  rw [if_pos rfl]
  refine wpAny_bind (wpAny_of_eq (a := b) rfl ?_)
  unfold Builtin.Frozenset.merge
  have hsz2 : es2.size = ks2.length := by rw [← hE2.len, Array.length_toList]
  have hf2 : t2.fits es2.size = true := by rw [hsz2]; exact fits_of hT2
  refine wpAny_bind (wpAny_setEpoch_of (s := { s with heap := h1 }) hb1 rfl hf2 ?_)
  refine set_merge (b := b) (s := { s with heap := h1 }) (fun s₁ Q' hb₁ q => ?_) (ne _ _ hb) hb1 hE2 hT2 hled2 ho1 hE1 hT1 hl1 fun h2 es3 ep3 t3 ks3 hs3 ho3 hE3 hT3 hl3 hm3 => ?_
  · unfold Builtin.Frozenset.unchanged
    refine wpAny_bind (wpAny_setEpoch_of hb₁ rfl hf2 ?_)
    rw [if_neg (by simp)]
    exact wpAny_pure q
  · refine wpAny_pure ?_
    refine wpAny_pure ⟨_, rfl, (fun q => by cases q), ?_⟩
    refine hQ h2 _ ks3 (fun c oc e => (hs3.2 c (ne c oc e)).trans (keep1 c oc e)) ho3 ⟨es3, ep3, t3, rfl, hE3, hT3, hl3⟩ fun k => ?_
    have h00 : ∀ k, k ∉ ([] : List Nat) := fun k q => by cases q
    rw [hm3, hm1]
    constructor
    · rintro ((q | q) | q)
      · exact absurd q (h00 k)
      · exact .inl q
      · exact .inr q
    · rintro (q | q)
      · exact .inl (.inr q)
      · exact .inr q
end
end
section
open PySem PySem.W PyProof.Rows PySem.Spec PySem.Calls
set_option maxRecDepth 100000
set_option maxHeartbeats 1000000
theorem set_add0 {prog : Program} {w : World} {A : Around} {E : Value → Shared → Prop} {s : Shared} {a : Addr} {ks : List Nat} {k : Nat} {tk : Tok} {Q : Bool → Shared → Prop} (hk : k < 16) (h15 : k ∉ ks → ks.length ≤ 15) {o : Obj} (ho : s.heap.get? a = some o) (hS : SetO w o ks)
    (h1 : k ∈ ks → Q false { s with toks := s.toks + 1 })
    (h2 : k ∉ ks → ∀ h' o' ks', Heap.SameBut a s.heap h' → h'.get? a = some o' → SetO w o' ks' → ks'.Perm (k :: ks) → Q true { s with heap := h', toks := s.toks + 1 }) :
    wpAny (model prog w) A (setAdd a (.int (k : Int) tk)) Q E s := by
  obtain ⟨es, ep, t, rfl, hE, hT, hled⟩ := hS
  have hkey : (intKind prog w).is (k : Int) (.int (k : Int) tk) = true := by show Value.isInt (k : Int) (.int (k : Int) tk) = true; simp [Value.isInt]
  have hh : (intKind prog w).hash (k : Int) = (k : Int) := small_hash' hk
  unfold setAdd
  refine wpAny_holding ?_
  refine wpAny_bind ((intKind prog w).pyHash hkey ?_)
  rw [hh]
  exact set_add_hashed (s := { s with toks := s.toks + 1 }) hk h15 ho hE hT h1 fun hm h' es' ep' t' ks' hs ho' hE' hT' hl hp => h2 hm h' _ ks' hs ho' ⟨es', ep', t', rfl, hE', hT', fun q => hl.trans (hled q)⟩ hp
section
variable {W : Wd} {n : Nat} {A : Around} {fs : List Addr} {nm : List (Str × NameKind)} {cs : List Str} {env : Env} {h₀ h h' : Heap} {lo : Nat} {S : St} {L L' : Lg} {s : Shared}
abbrev Wd.tx (W : Wd) : Bool := W.w.params.followText "set-order"
theorem arr_new {o : Obj} {x : Addr} (H : HI W n A fs h L) (keep : ∀ b ob, h.get? b = some ob → h'.get? b = some ob) (hx : h.get? x = none) (ho : h'.get? x = some o) (hd : dataOk o = true) : Arr W n A fs h L h' ⟨(x, o) :: L.led, L.ow⟩ := by
  have H' := H.kp (.of_keep keep)
  refine ⟨⟨H'.handled, H'.room, H'.units, H'.stk, H'.base, fun p hp => ?_, H.nb.cons (H.fresh hx)⟩, .of_keep keep, [(x, o)], rfl, fun p hp => ?_⟩
  · rcases List.mem_cons.mp hp with rfl | hp
    · exact ⟨ho, hd⟩
    · exact H'.led p hp
  · rw [List.mem_singleton.mp hp]; exact hx
theorem SetX.ok {tx : Bool} {o : Obj} {ks : List Nat} (h : SetX tx o ks) : dataOk o = true := by obtain ⟨_, _, _, rfl, _⟩ := h; rfl
theorem in_main {Q : Bool → Shared → Prop} (P : Pre W n A fs nm cs env h₀ lo S s.heap L) (h : ∀ b, Q b s) : wpAny W.M A (inMainModule env) Q NoE s := by
  obtain ⟨c, o, vs, e, ho, hd⟩ := P.envb.2
  have ho' : s.heap.get? c = some o := P.hi.base _ _ ho
  unfold inMainModule
  try dsimp only
  rw [e]
  split
  · exact wpAny_pure (h _)
  · refine wpAny_bind (wpAny_fieldsOf ho' hd ?_)
    split
    · exact wpAny_bind (wpAny_askSetting (wpAny_pure (h _)))
    · exact wpAny_pure (h _)
theorem one_bits (i k : Nat) : k ∈ [i] ↔ (2 ^ i).testBit k = true := by
  rw [List.mem_singleton, Nat.testBit_two_pow, decide_eq_true_eq, eq_comm]
theorem ev_set1 {i : Nat} {j : Nat} {p pos : Pos} (hi : i < 16) : EvD W n nm cs S (.Set [.Constant (.int (i : Int)) j p] 0 pos) (.set W.tx (2 ^ i)) := by
  intro A fs env h₀ lo s L Q P k
  rw [arm_eval_Set]
  refine wpAny_bind (wpAny_standAt ?_)
  refine wpAny_bind (in_main P fun b => ?_)
  rw [show starEach [.Constant (.int (i : Int)) j p] env = [(false, eval (.Constant (.int (i : Int)) j p) env)] from rfl]
  rw [List.map_cons, List.map_nil]
  dsimp only
  generalize hT : (do let v ← eval (.Constant (.int (i : Int)) j p) env; standAt pos; pure v : Sem Value) = T
  unfold setDisplay
  try dsimp only
  have hr0 : (displayRoad 0 [PySem.Expr.Constant (Const.int (i : Int)) j p] == DisplayRoad.constants) = false := rfl
  rw [hr0, if_neg Bool.false_ne_true]
  refine wpAny_bind (new_set fun o0 hS0 hf0 => ?_)
  dsimp only
  refine wpAny_bind (wpAny_holding ?_)
  rw [show (if ([(false, T)] : List (Bool × Sem Value)).length > 30 then 0 else (([(false, T)] : List (Bool × Sem Value)).findIdx? (fun x => x.1)).getD ([(false, T)] : List (Bool × Sem Value)).length) = 1 from rfl, show ([(false, T)] : List (Bool × Sem Value)).take 1 = [(false, T)] from rfl, show ([(false, T)] : List (Bool × Sem Value)).drop 1 = [] from rfl, List.map_cons, List.map_nil]
  have h0 : (s.heap.push o0).get? s.heap.objs.size = some o0 := Heap.get?_push_size _ hf0
  have hn : s.heap.get? s.heap.objs.size = none := Heap.get?_none_of_le (Nat.le_refl _)
  refine wpAny_bind (wpAny_evalAll_cons ?_)
  subst hT
  refine wpAny_bind (wpAny_Constant_int ?_)
  refine wpAny_bind (wpAny_standAt (wpAny_pure ?_))
  refine wpAny_evalAll_nil ?_
  refine wpAny_bind (wpAny_holding ?_)
  rw [List.forIn_cons, List.forIn_nil]
  refine wpAny_bind (wpAny_bind (wpAny_bind (set_add0 hi (fun _ => Nat.zero_le _) h0 hS0 (fun q => nomatch q) fun _ h1 o1 ks1 hs1 ho1 hS1 hp1 => ?_)))
  refine wpAny_pure (wpAny_pure ?_)
  have hr : (displayRoad 0 [PySem.Expr.Constant (Const.int (i : Int)) j p] == DisplayRoad.unsure) = false := rfl
  rw [hr, if_neg Bool.false_ne_true]
  refine wpAny_pure (wpAny_bind (wpAny_pure (wpAny_pure ?_)))
  refine wpAny_pure ?_
  exact k _ h1 _ ⟨(s.heap.objs.size, o1) :: L.led, L.ow⟩ (arr_new P.hi (fun b ob e => (hs1.2 b (fun q => by rw [q, hn] at e; cases e)).trans (Heap.get?_push_of_some _ e)) hn ho1 hS1.ok) (.set (.head _) hS1 fun x => by rw [hp1.mem_iff]; exact one_bits i x)
end
end
section
open PySem PySem.W PyProof.Rows PySem.Spec PySem.Calls
set_option maxRecDepth 100000
set_option maxHeartbeats 1000000
section
variable {W : Wd} {n : Nat} {A : Around} {fs : List Addr} {nm : List (Str × NameKind)} {cs : List Str} {env : Env} {h₀ h h' : Heap} {lo : Nat} {S : St} {L L' : Lg} {s : Shared}
theorem Rep.setE {tx : Bool} {m : Nat} {v : Value} (r : Rep L v (.set tx m)) : ∃ a o ks, v = .ref a ∧ (a, o) ∈ L.led ∧ SetX tx o ks ∧ ∀ k, k ∈ ks ↔ m.testBit k = true := by
  cases r with
  | set h x y => exact ⟨_, _, _, rfl, h, x, y⟩
/-- the number of a set's elements -/
def cnt16 (m : Nat) : Nat := ((List.range 16).filter m.testBit).length
theorem cnt_len {ks : List Nat} {m : Nat} (hn : ks.Nodup) (hl : ∀ k ∈ ks, k < 16) (h : ∀ k, k ∈ ks ↔ m.testBit k = true) : ks.length = cnt16 m := by
  have h1 := nodup_le hn (l₂ := (List.range 16).filter m.testBit) fun x hx => List.mem_filter.mpr ⟨List.mem_range.mpr (hl x hx), (h x).mp hx⟩
  have h2 := nodup_le (l₁ := (List.range 16).filter m.testBit) (List.Nodup.sublist List.filter_sublist List.nodup_range) (l₂ := ks) fun x hx => (h x).mpr (List.mem_filter.mp hx).2
  unfold cnt16
  omega
theorem lenS_ok (ds : List D) (d : D) (e : (match ds with | [.set tx m] => if tx = W.tx then some (D.int (cnt16 m : Int)) else none | _ => none) = some d) : OpN W n (callT (.builtin "len")) ds d := by
  intro A fs L vs Rs s Q H k
  split at e
  · rename_i tx m
    split at e
    · rename_i htx
      subst htx
      cases e
      obtain ⟨v, rfl, R⟩ := Rs.one
      obtain ⟨a, o, ks, rfl, hm, hS, hk⟩ := R.setE
      obtain ⟨es, ep, t, rfl, hE, hT, hled⟩ := hS
      refine set_len (H.led _ hm).1 hE hT (len16 hT.toTabR) ?_
      rw [cnt_len hT.nd hT.lt hk]
      exact out_flat H k _ s.heap (s.toks + 1 + 1) (.int _ _) fun _ _ z => z
    · cases e
  · cases e
/-- the call len(e) of a set -/
theorem v_lenS {p pos : Pos} {e : PySem.Expr} {m : Nat} (hx : EvD W n nm cs S e (.set W.tx m)) (hg : W.mg "len" = none) (hs : ∀ env, starEach [e] env = [(false, eval e env)] := by exact fun _ => rfl) (hk : nm.lookup ("len" : Str) = some .globalImplicit := by rfl) : EvD W n nm cs S (.Call (.Name "len" p) [e] [] pos) (.int (cnt16 m : Int)) :=
  ev_call (f := .builtin "len") (ev_builtin hk hg boot_len (by decide) (by decide)) (.inl (fun a z => (nomatch z))) (.cons hx (fun env => (hs env).trans rfl) .nil) (fun ds d => lenS_ok ds d) (by
    unfold apP
    show (if W.tx = W.tx then some (D.int (cnt16 m : Int)) else none) = _
    exact if_pos rfl)
theorem orS_ok (ds : List D) (d : D) (e : (match ds with | [.set tx m, .set tx' m'] => if tx = W.tx ∧ tx' = W.tx then some (D.set W.tx (m ||| m')) else none | _ => none) = some d) : OpN W n (binT .BitOr) ds d := by
  intro A fs L vs Rs s Q H k
  split at e
  · rename_i tx m tx' m'
    split at e
    · rename_i htx
      obtain ⟨rfl, rfl⟩ := htx
      cases e
      obtain ⟨v, v', rfl, R, R'⟩ := Rs.two
      obtain ⟨a, o, ks, rfl, hm, hS, hk⟩ := R.setE
      obtain ⟨b, o', ks', rfl, hm', hS', hk'⟩ := R'.setE
      have ha := (H.led _ hm).1
      have hb := (H.led _ hm').1
      have hn : s.heap.get? s.heap.objs.size = none := Heap.get?_none_of_le (Nat.le_refl _)
      show wpAny W.M A (binaryOp .BitOr (.ref a) (.ref b)) Q NoE s
      refine set_or ha hS hb hS' fun h1 o1 ks1 keep ho1 hS1 hk1 => ?_
      exact k _ h1 s.toks _ (arr_new H keep hn ho1 hS1.ok) (.set (.head _) hS1 fun x => by
        rw [hk1 x, Nat.testBit_or, Bool.or_eq_true, ← hk x, ← hk' x])
    · cases e
  · cases e
theorem v_orS {l r : PySem.Expr} {pos : Pos} {m m' : Nat} (x : EvD W n nm cs S l (.set W.tx m)) (y : EvD W n nm cs S r (.set W.tx m')) : EvD W n nm cs S (.BinOp l .BitOr r pos) (.set W.tx (m ||| m')) :=
  ev_bin x y (fun ds d => orS_ok ds d) (by
    unfold apP
    show (if W.tx = W.tx ∧ W.tx = W.tx then some (D.set W.tx (m ||| m')) else none) = _
    exact if_pos ⟨rfl, rfl⟩)
end
end
section
open PySem PySem.W PyProof.Rows PySem.Spec PySem.Calls
set_option maxRecDepth 100000
set_option maxHeartbeats 1000000
section
variable {W : Wd} {n : Nat} {A : Around} {fs : List Addr} {nm : List (Str × NameKind)} {cs : List Str} {env : Env} {h₀ h h' : Heap} {lo : Nat} {S S' : St} {L L' L₀ : Lg} {s : Shared} {X I a : Addr} {acc : List Nat}
/-- what a turn of a set comprehension leaves -/
structure CS (W : Wd) (n : Nat) (A : Around) (fs : List Addr) (nm : List (Str × NameKind)) (cs : List Str) (env : Env) (h₀ : Heap) (lo : Nat) (S : St) (X I : Addr) (acc : List Nat) (h : Heap) (L₀ L : Lg) : Prop where
  pre : Pre W n A fs nm cs env h₀ lo S h L
  more : More h₀ L₀ L
  acc : ∃ o ks, h.get? X = some o ∧ SetX W.tx o ks ∧ ∀ k, k ∈ ks ↔ k ∈ acc
  offX : (∀ p ∈ L.led, p.1 ≠ X) ∧ X ∉ L.ow ∧ h₀.get? X = none
  offI : (∀ p ∈ L.led, p.1 ≠ I) ∧ X ≠ I ∧ h₀.get? I = none ∧ ∃ o fv, h.get? I = some o ∧ o.data = .fields fv
/-- what the comprehension leaves -/
structure CE (W : Wd) (n : Nat) (A : Around) (fs : List Addr) (nm : List (Str × NameKind)) (cs : List Str) (env : Env) (h₀ : Heap) (lo : Nat) (S : St) (X : Addr) (acc : List Nat) (h : Heap) (L₀ L : Lg) : Prop where
  pre : Pre W n A fs nm cs env h₀ lo S h L
  more : More h₀ L₀ L
  acc : ∃ o ks, h.get? X = some o ∧ SetX W.tx o ks ∧ ∀ k, k ∈ ks ↔ k ∈ acc
  offX : h₀.get? X = none
theorem CS.offow (c : CS W n A fs nm cs env h₀ lo S X I acc h L₀ L) : I ∉ L.ow := fun z => by
  obtain ⟨vs, k, y⟩ := own_off c.pre z
  obtain ⟨_, _, _, o, fv, e, d⟩ := c.offI
  rw [e] at y
  rw [Option.some.inj y] at d
  cases d
theorem CS.locX (c : CS W n A fs nm cs env h₀ lo S X I acc h L₀ L) : env.locals ≠ X := fun q => by
  obtain ⟨m', o', es, ep, e', d', _⟩ := c.pre.loc
  obtain ⟨o, ks, e, hS, _⟩ := c.acc
  obtain ⟨_, _, _, rfl, _⟩ := hS
  rw [q, e] at e'
  cases e'
  cases d'
theorem CS.locI (c : CS W n A fs nm cs env h₀ lo S X I acc h L₀ L) : env.locals ≠ I := fun q => by
  obtain ⟨m', o', es, ep, e', d', _⟩ := c.pre.loc
  obtain ⟨_, _, _, o, fv, e, d⟩ := c.offI
  rw [q, e] at e'
  cases e'
  rw [d] at d'
  cases d'
theorem CS.arr (c : CS W n A fs nm cs env h₀ lo S X I acc h L₀ L) (r : Arr W n A fs h L h' L') : CS W n A fs nm cs env h₀ lo S X I acc h' L₀ L' ∧ h'.get? I = h.get? I := by
  obtain ⟨o, ks, e, hS, hk⟩ := c.acc
  obtain ⟨oI, fv, eI, dI⟩ := c.offI.2.2.2
  have hX := r.kp.same _ _ e (off_data c.pre.hi.stk e hS.ok)
  have hI := r.kp.same _ _ eI (off_data c.pre.hi.stk eI (by unfold dataOk; rw [dI]))
  have led : ∀ {Y : Addr} {oY : Obj}, h.get? Y = some oY → (∀ p ∈ L.led, p.1 ≠ Y) → ∀ p ∈ L'.led, p.1 ≠ Y := fun {Y oY} y z p hp q => by
    obtain ⟨add, rfl, ha⟩ := r.more
    rcases List.mem_append.mp hp with hp | hp
    · have := ha p hp; rw [q, y] at this; cases this
    · exact z p hp q
  refine ⟨⟨c.pre.arr r, c.more.trans (fun b q => c.pre.keep.none q) r.more, ⟨o, ks, hX, hS, hk⟩, ⟨led e c.offX.1, ?_, c.offX.2.2⟩, ⟨led eI c.offI.1, c.offI.2.1, c.offI.2.2.1, oI, fv, hI, dI⟩⟩, hI.trans eI.symm⟩
  obtain ⟨add, rfl, ha⟩ := r.more
  exact c.offX.2.1
theorem CS.bind (c : CS W n A fs nm cs env h₀ lo S X I acc h L₀ L) (P : Pre W n A fs nm cs env h₀ lo S' h' L) (k : KpA h h') : CS W n A fs nm cs env h₀ lo S' X I acc h' L₀ L ∧ h'.get? I = h.get? I := by
  obtain ⟨o, ks, e, hS, hk⟩ := c.acc
  obtain ⟨oI, fv, eI, dI⟩ := c.offI.2.2.2
  have hI := k.1 _ _ eI (by unfold dataOk; rw [dI])
  exact ⟨⟨P, c.more, ⟨o, ks, k.1 _ _ e hS.ok, hS, hk⟩, c.offX, ⟨c.offI.1, c.offI.2.1, c.offI.2.2.1, oI, fv, hI, dI⟩⟩, hI.trans eI.symm⟩
theorem CS.move (c : CS W n A fs nm cs env h₀ lo S X I acc h L₀ L) (he : Heap.ExtBut I h h') (hf : ∃ o fv, h'.get? I = some o ∧ o.data = .fields fv) : CS W n A fs nm cs env h₀ lo S X I acc h' L₀ L := by
  obtain ⟨o, ks, e, hS, hk⟩ := c.acc
  obtain ⟨oI, fv, eI, dI⟩ := c.offI.2.2.2
  refine ⟨c.pre.off eI (off_data c.pre.hi.stk eI (by unfold dataOk; rw [dI])) c.locI (fun w z => by rw [dI] at z; cases z) c.offow c.offI.1 c.offI.2.2.1 he, c.more, ⟨o, ks, he _ _ c.offI.2.1 e, hS, hk⟩, c.offX, ⟨c.offI.1, c.offI.2.1, c.offI.2.2.1, hf⟩⟩
theorem CS.last (c : CS W n A fs nm cs env h₀ lo S X I acc h L₀ L) (he : Heap.ExtBut I h h') : CE W n A fs nm cs env h₀ lo S X acc h' L₀ L := by
  obtain ⟨o, ks, e, hS, hk⟩ := c.acc
  obtain ⟨oI, fv, eI, dI⟩ := c.offI.2.2.2
  exact ⟨c.pre.off eI (off_data c.pre.hi.stk eI (by unfold dataOk; rw [dI])) c.locI (fun w z => by rw [dI] at z; cases z) c.offow c.offI.1 c.offI.2.2.1 he, c.more, ⟨o, ks, he _ _ c.offI.2.1 e, hS, hk⟩, c.offX.2.2⟩
theorem CS.weak (c : CS W n A fs nm cs env h₀ lo S X I acc h L₀ L) (hv : ∀ p ∈ S'.vars, p ∈ S.vars) (ho : S'.own = S.own) : CS W n A fs nm cs env h₀ lo S' X I acc h L₀ L := ⟨c.pre.weak hv ho, c.more, c.acc, c.offX, c.offI⟩
theorem CS.add (c : CS W n A fs nm cs env h₀ lo S X I acc s.heap L₀ L) {k : Nat} {tk : Tok} {Q : Value → Shared → Prop} (hk : k < 16)
    (q : ∀ h' tk, CS W n A fs nm cs env h₀ lo S X I (acc ++ [k]) h' L₀ L → h'.get? I = s.heap.get? I → Q .none { s with heap := h', toks := tk }) : wpAny W.M A (call (.builtin "set.add") [.ref X, .int (k : Int) tk]) Q NoE s := by
  obtain ⟨o, ks, e, hS, hks⟩ := c.acc
  have hS0 := hS
  obtain ⟨es, ep, t, rfl, hE, hT, hled⟩ := hS0
  have h15 : k ∉ ks → ks.length ≤ 15 := fun hm => by
    have := nodup_le (l₁ := k :: ks) (List.nodup_cons.mpr ⟨hm, hT.nd⟩) (l₂ := List.range 16) fun x hx => List.mem_range.mpr (by
      rcases List.mem_cons.mp hx with rfl | hx
      · exact hk
      · exact hT.lt x hx)
    rw [List.length_range, List.length_cons] at this
    omega
  refine set_add hk h15 e hS (fun hm => ?_) fun hm h1 o1 ks1 hs1 ho1 hS1 hp1 => ?_
  · refine q s.heap _ ⟨c.pre, c.more, ⟨_, ks, e, hS, fun x => ?_⟩, c.offX, c.offI⟩ rfl
    rw [List.mem_append, List.mem_singleton, ← hks x]
    exact ⟨.inl, fun z => z.elim id fun z => z ▸ hm⟩
  · have P' := c.pre.off e (off_data c.pre.hi.stk e hS.ok) c.locX (fun w z => by cases z) c.offX.2.1 c.offX.1 c.offX.2.2 hs1.extBut
    have eI := hs1.2 I c.offI.2.1.symm
    obtain ⟨oI, fv, yI, dI⟩ := c.offI.2.2.2
    refine q h1 _ ⟨P', c.more, ⟨o1, ks1, ho1, hS1, fun x => ?_⟩, c.offX, ⟨c.offI.1, c.offI.2.1, c.offI.2.2.1, oI, fv, eI.trans yI, dI⟩⟩ eI
    rw [hp1.mem_iff, List.mem_cons, List.mem_append, List.mem_singleton, hks x]
    exact or_comm
theorem SetIt.same {w : World} {es : Array (Int × Value)} {ep i : Nat} {t : SetTable} (z : SetIt w h I a es ep t i) (e : h'.get? I = h.get? I) : SetIt w h' I a es ep t i := by
  obtain ⟨o, sl, y, r⟩ := z
  exact ⟨o, sl, e.trans y, r⟩
theorem SetIt.fields {w : World} {es : Array (Int × Value)} {ep i : Nat} {t : SetTable} (z : SetIt w h I a es ep t i) : ∃ o fv, h.get? I = some o ∧ o.data = .fields fv := by
  obtain ⟨o, sl, y, _, d, _⟩ := z
  exact ⟨o, _, y, d⟩
theorem set_loop [hq : Quiet W] {elt : PySem.Expr} {g : Comprehension} {scope : Scope} {pos : Pos} {x : Str} {p : Pos} {f : Nat → Nat} {es : Array (Int × Value)} {ep : Nat} {t : SetTable} {ks : List Nat} (ha : g.is_async = 0) (htg : g.target = .Name x p) (hif : g.ifs = []) (hE : EnOk es.toList ks) (hT : TabOk t ks) (hled : W.tx = false → t.led = true)
    (hel : ∀ k ∈ ks, ∃ S1, bindF nm cs g.target (.int (k : Int)) S = some S1 ∧ EvD W n nm cs S1 elt (.int (f k : Int)) ∧ f k < 16) : ∀ (rest : List (Int × Value)) (i : Nat) (acc : List Nat) (s : Shared) (L : Lg) (R : Result → Shared → Prop),
    (walkL W.w a ep es).drop i = rest → CS W n A fs nm cs env h₀ lo S X I acc s.heap L₀ L → SetIt W.w s.heap I a es ep t i → (a, sob es ep t) ∈ L.led →
    (∀ h' tk L', CE W n A fs nm cs env h₀ lo S X (acc ++ rest.map fun e => f e.1.toNat) h' L₀ L' → R (.ok .next) { s with heap := h', toks := tk }) →
    codeAny W.M A (.compLoop (.SetComp elt [g] scope pos) 0 (.ref I) (.ref X) env) R s := by
  intro rest
  induction rest with
  | nil =>
    intro i acc s L R hr c it hm q
    have hnone : (walkL W.w a ep es)[i]? = none := by
      have := congrArg (fun l => l[0]?) hr
      simpa using this
    refine codeAny_of_tree ?_
    show wpAny _ A ((compTurn (.SetComp elt [g] scope pos) 0 (.ref I) (.ref X) env).onRaise (fun x => do noteFrame x env; theTreesLotGoes x)) _ _ s
    refine wpAny_noted ?_
    unfold compTurn
    dsimp only
    rw [show ([g] : List Comprehension)[0]? = some g from rfl]
    dsimp only
    rw [ha]
    simp only [bne_self_eq_false, Bool.false_eq_true, if_false]
    refine wpAny_bind (wpAny_standAt ?_)
    refine wpAny_bind (anyE (set_end (c.pre.hi.handled hq.q) it (c.pre.hi.led _ hm).1 hE hT hled hnone fun h1 he1 => ?_))
    refine wpAny_pure ?_
    have := q h1 s.toks L (by rw [List.map_nil, List.append_nil]; exact c.last he1)
    exact this
  | cons e rest ih =>
    intro i acc s L R hr c it hm q
    have hsome : (walkL W.w a ep es)[i]? = some e := by
      have := congrArg (fun l => l[0]?) hr
      simpa using this
    have hrest : (walkL W.w a ep es).drop (i + 1) = rest := by
      have := congrArg List.tail hr
      rw [List.tail_drop] at this
      exact this
    have hmem : e ∈ es.toList := (walk_perm W.w a ep es).mem_iff.mp (List.mem_of_getElem? hsome)
    obtain ⟨tk, hv⟩ := hE.2 e hmem
    have h1 : e.1 ∈ ks.map fun (k : Nat) => (k : Int) := by rw [← hE.1]; exact List.mem_map_of_mem hmem
    obtain ⟨k, hk, e1⟩ := List.mem_map.mp h1
    obtain ⟨S1, hb, hev, hfk⟩ := hel k hk
    obtain ⟨hb1, hb2, hb3⟩ := bindF_vars hb
    refine codeAny_of_tree ?_
    show wpAny _ A ((compTurn (.SetComp elt [g] scope pos) 0 (.ref I) (.ref X) env).onRaise (fun x => do noteFrame x env; theTreesLotGoes x)) _ _ s
    refine wpAny_noted ?_
    unfold compTurn
    dsimp only
    rw [show ([g] : List Comprehension)[0]? = some g from rfl]
    dsimp only
    rw [ha]
    simp only [bne_self_eq_false, Bool.false_eq_true, if_false]
    refine wpAny_bind (wpAny_standAt ?_)
    refine wpAny_bind (anyE (set_item it (c.pre.hi.led _ hm).1 hE hT hled hsome fun h2 it2 hs2 => ?_))
    have c2 := c.move hs2.extBut it2.fields
    rw [htg] at hb1 ⊢
    refine wpAny_bind (wpAny_of_eq (a := ()) rfl ?_)
    have R1 : Rep L e.2 (.int (k : Int)) := by rw [hv, ← e1]; exact .int _ _
    refine wpAny_bind (anyE (assign_ok (s := { s with heap := h2 }) c2.pre R1 hb1 fun h3 t3 P3 k3 => ?_))
    obtain ⟨c3, e3⟩ := c2.bind P3 k3
    have it3 := it2.same e3
    rw [hif]
    rw [List.forIn_nil]
    refine wpAny_bind (wpAny_pure ?_)
    rw [if_pos rfl, show ([g] : List Comprehension)[0 + 1]? = none from rfl]
    refine wpAny_bind (wpAny_bind (anyE (hev A fs env h₀ lo { s with heap := h3, toks := t3 } L _ c3.pre fun v4 h4 t4 L4 a4 R4 => ?_)))
    obtain ⟨c4, e4⟩ := c3.arr a4
    have it4 := it3.same e4
    obtain ⟨tk4, rfl⟩ := R4.intE
    refine wpAny_bind (wpAny_standAt ?_)
    refine wpAny_bind (anyE (c4.add (s := { s with heap := h4, toks := t4 }) hfk fun h5 t5 c5 e5 => ?_))
    have it5 := it4.same e5
    refine wpAny_pure (wpAny_pure ⟨rfl, ?_⟩)
    refine ih (i + 1) (acc ++ [f k]) { s with heap := h5, toks := t5 } L4 R hrest (c5.weak hb3 hb2.symm) it5 (a4.le.led _ hm) fun h6 t6 L6 C6 => q h6 t6 L6 ?_
    rw [List.map_cons, show e.1.toNat = k by rw [← e1]; rfl]
    rw [List.append_assoc] at C6
    exact C6
end
end
section
open PySem PySem.W PyProof.Rows PySem.Spec PySem.Calls
set_option maxRecDepth 100000
set_option maxHeartbeats 1000000
section
variable {W : Wd} {n : Nat} {A : Around} {fs : List Addr} {nm : List (Str × NameKind)} {cs : List Str} {env : Env} {h₀ h h' : Heap} {lo : Nat} {S S' : St} {L L' L₀ : Lg} {s : Shared} {X I a : Addr} {acc : List Nat}
theorem start_set {elt : PySem.Expr} {gens : List Comprehension} {scope : Scope} {pos : Pos} {g : Comprehension} {acc : Value} {R : Result → Shared → Prop} {es : Array (Int × Value)} {ep i : Nat} {t : SetTable} (hg : gens[0]? = some g) (ha : g.is_async = 0) (a : SetIt W.w s.heap I a es ep t i)
    (h : codeAny W.M A (.compLoop (.SetComp elt gens scope pos) 0 (.ref I) acc env) R s) : codeAny W.M A (.compStart (.SetComp elt gens scope pos) 0 (.ref I) acc env) R s := by
  refine codeAny_of_tree ?_
  show wpAny _ _ ((compStart (.SetComp elt gens scope pos) 0 (.ref I) acc env).onRaise (fun x => do noteFrame x env; standAt theWindowsPlace)) _ _ s
  refine wpAny_notedAt ?_
  unfold compStart
  have hc : (clausesOf (.SetComp elt gens scope pos))[0]? = some g := hg
  rw [hc, if_neg (show ¬ ((some g).elim false (fun x => x.is_async != 0)) = true by show ¬ (g.is_async != 0) = true; rw [ha]; decide)]
  dsimp only
  show wpAny _ _ (ask >>= _) _ _ s
  refine wpAny_bind (wpAny_askSetting (wpAny_ite ?_))
  split
  · first
      | exact wpAny_bind (wpAny_pure (wpAny_pure (And.intro rfl h)))
      | exact wpAny_pure (And.intro rfl h)
  · refine wpAny_bind (wpAny_rule ?_)
    refine wpAny_bind (wpAny_standAt ?_)
    exact wpAny_bind (anyE (set_iter_self a (wpAny_pure (And.intro rfl h))))
theorem ev_setcomp [Quiet W] {elt : PySem.Expr} {g : Comprehension} {scope : Scope} {pos : Pos} {x : Str} {p : Pos} {m m' : Nat} {f : Nat → Nat} (he : EvD W n nm cs S g.iter (.set W.tx m)) (h1 : okStat scope nm = true) (h2 : FrR S scope.names) (ha : (g.is_async == 0) = true) (hfold : ∀ env x, foldedSetIterable g.iter env x = pure x)
    (htg : g.target = .Name x p) (hif : g.ifs = [])
    (hel : ∀ k, m.testBit k = true → ∃ S1, bindF (relN scope nm) (ownC scope) g.target (.int (k : Int)) (capt scope S) = some S1 ∧ EvD W n (relN scope nm) (ownC scope) S1 elt (.int (f k : Int)) ∧ f k < 16)
    (hm' : ∀ k, m'.testBit k = true ↔ ∃ j, m.testBit j = true ∧ f j = k) : EvD W n nm cs S (.SetComp elt [g] scope pos) (.set W.tx m') := by
  intro A fs env h₀ lo s L Q P q
  have hc := compOk_of h1 h2
  have ha' : g.is_async = 0 := eq_of_beq ha
  rw [arm_eval_SetComp]
  have hfa : firstAsync [g] = false := (compOk_async (g := g) (gs := []) (by rw [List.all_cons, ha]; rfl)).1
  dsimp only
  rw [hfa]
  refine wpAny_comprehension_free (g := g) (gs := []) rfl (fun x => hfold env x) (closure_eq (comp_free hc P)) (compOk_kind hc) (compOk_local hc) ?_
  have hfi : firstIter [g] env = eval g.iter env := by cases g; rfl
  rw [hfi]
  refine ev_bind he P fun v h1 t1 L1 P1 a1 R1 => ?_
  obtain ⟨a, o, ks, rfl, hma, hS, hks⟩ := R1.setE
  obtain ⟨es, ep, t, rfl, hE, hT, hled⟩ := hS
  refine set_iter (s := { s with heap := h1, toks := t1 }) (P1.hi.led _ hma).1 hE hT fun oI hfI hdI it2 => ?_
  have hn1 : h1.get? h1.objs.size = none := Heap.get?_none_of_le (Nat.le_refl _)
  have kp2 : ∀ b ob, h1.get? b = some ob → (h1.push oI).get? b = some ob := fun b ob e => Heap.get?_push_of_some _ e
  have a2 := Arr.of_kp (A := A) (W := W) (n := n) (fs := fs) P1.hi (.of_keep kp2)
  have a12 := a1.trans a2
  refine new_set fun o0 hS0 hf0 => ?_
  have a3 := Arr.of_kp (A := A) (W := W) (n := n) (fs := fs) a2.hi (.push fs (h1.push oI) o0)
  have a13 := a12.trans a3
  have hXn : (h1.push oI).get? (h1.push oI).objs.size = none := Heap.get?_none_of_le (Nat.le_refl _)
  have hX : ((h1.push oI).push o0).get? (h1.push oI).objs.size = some o0 := Heap.get?_push_size _ hf0
  have hXs : s.heap.get? (h1.push oI).objs.size = none := a12.kp.none hXn
  have hsz : (h1.push oI).objs.size = h1.objs.size + 1 := Heap.size_push ..
  refine comp_env (s := { s with heap := (h1.push oI).push o0, toks := t1 }) (compOk_kind hc) ?_
  obtain ⟨P4, keep4⟩ := comp_frame hc P a13
  have keepH : ∀ b ob, (h1.push oI).get? b = some ob → (compHeap scope ((h1.push oI).push o0)).get? b = some ob := fun b ob z => keep4 b ob (Heap.get?_push_of_some _ z)
  obtain ⟨oI', fv, yI, dI⟩ := it2.fields
  have it4 : SetIt W.w (compHeap scope ((h1.push oI).push o0)) h1.objs.size a es ep t 0 := it2.same ((keepH _ _ yI).trans yI.symm)
  have C4 : CS W n A fs (relN scope nm) (ownC scope) { compEnv' scope env ((h1.push oI).push o0) with scope := relabel scope env } s.heap S.own.length (capt scope S) (h1.push oI).objs.size h1.objs.size [] (compHeap scope ((h1.push oI).push o0)) L L1 := by
    refine ⟨P4, a12.more, ⟨o0, [], keep4 _ _ hX, hS0, fun _ => Iff.rfl⟩, ⟨fun p hp z => ?_, fun z => ?_, hXs⟩, ⟨fun p hp z => ?_, fun z => ?_, a1.kp.none hn1, oI', fv, keepH _ _ yI, dI⟩⟩
    · have := (a2.hi.led p hp).1
      rw [z, hXn] at this
      cases this
    · obtain ⟨vs, c, y⟩ := own_off (P.arr a12) z
      rw [hXn] at y
      cases y
    · have := (P1.hi.led p hp).1
      rw [z, show h1.get? h1.objs.size = none from hn1] at this
      cases this
    · have z : (h1.push oI).objs.size = h1.objs.size := z
      rw [hsz] at z
      exact absurd z (Nat.succ_ne_self _)
  refine start_set (s := { s with heap := compHeap scope ((h1.push oI).push o0), toks := t1 }) rfl ha' it4 ?_
  refine set_loop (h₀ := s.heap) (L₀ := L) (lo := S.own.length) (fs := fs) (n := n) (x := x) (p := p) (f := f) (S := capt scope S) ha' htg hif hE hT hled (fun k hk => hel k ((hks k).mp hk)) (walkL W.w a ep es) 0 [] { s with heap := compHeap scope ((h1.push oI).push o0), toks := t1 } L1 _ (List.drop_zero ..) C4 it4 hma fun h5 t5 L5 C5 => ?_
  obtain ⟨o5, ks5, hX5, hS5, hk5⟩ := C5.acc
  have H5 := C5.pre.hi
  obtain ⟨mm, hns⟩ := C5.pre.loc
  obtain ⟨add, hL5, hadd⟩ := C5.more
  have hCn : s.heap.get? ((h1.push oI).push o0).objs.size = none := C5.pre.locn
  have hCX : ((h1.push oI).push o0).objs.size ≠ (h1.push oI).objs.size := by
    rw [show ((h1.push oI).push o0).objs.size = (h1.push oI).objs.size + 1 from Heap.size_push ..]
    exact Nat.succ_ne_self _
  have hkeys : ∀ k, k ∈ ks5 ↔ m'.testBit k = true := fun k => by
    rw [hk5 k, List.nil_append, hm' k, List.mem_map]
    have hkey : ∀ e ∈ es.toList, ∃ k ∈ ks, e.1 = ((k : Nat) : Int) := fun e he => by
      have h1 : e.1 ∈ ks.map fun (k : Nat) => (k : Int) := by rw [← hE.1]; exact List.mem_map_of_mem he
      obtain ⟨k, hk, e1⟩ := List.mem_map.mp h1
      exact ⟨k, hk, e1.symm⟩
    constructor
    · rintro ⟨e, he, hf⟩
      obtain ⟨j, hj, e1⟩ := hkey e ((walk_perm W.w a ep es).mem_iff.mp he)
      refine ⟨j, (hks j).mp hj, ?_⟩
      rw [← hf, e1]
      rfl
    · rintro ⟨j, hj, hf⟩
      have h1 : (j : Int) ∈ es.toList.map (·.1) := by rw [hE.1]; exact List.mem_map.mpr ⟨j, (hks j).mpr hj, rfl⟩
      obtain ⟨e, he, e1⟩ := List.mem_map.mp h1
      exact ⟨e, (walk_perm W.w a ep es).mem_iff.mpr he, by rw [e1]; exact hf⟩
  have a5 : Arr W n A fs s.heap L h5 ⟨((h1.push oI).objs.size, o5) :: L5.led, L5.ow⟩ := by
    refine ⟨⟨H5.handled, H5.room, H5.units, H5.stk, H5.base, fun p hp => ?_, H5.nb.cons (P.hi.fresh hXs)⟩, C5.pre.keep, ((h1.push oI).objs.size, o5) :: add, by rw [hL5]; rfl, fun p hp => ?_⟩
    · rcases List.mem_cons.mp hp with rfl | hp
      · exact ⟨hX5, hS5.ok⟩
      · exact H5.led p hp
    · rcases List.mem_cons.mp hp with rfl | hp
      · exact hXs
      · exact hadd p hp
  have hCL : ∀ p ∈ ((h1.push oI).objs.size, o5) :: L5.led, p.1 ≠ ((h1.push oI).push o0).objs.size := fun p hp z => by
    obtain ⟨o', es', ep', y, d', _⟩ := hns
    have y : h5.get? ((h1.push oI).push o0).objs.size = some o' := y
    have y2 := a5.hi.led p hp
    rw [z, y] at y2
    have y3 := y2.2
    cases Option.some.inj y2.1
    unfold dataOk at y3
    rw [d'] at y3
    cases y3
  refine ⟨mm, hns, fun h6 hs6 => ?_⟩
  refine q _ h6 t5 _ ⟨a5.hi.write hCL ?_ hs6 (fun z => ?_), a5.kp.write hCn hs6, a5.more⟩ (.set (.head _) hS5 hkeys)
  · cases y : W.base.get? ((h1.push oI).push o0).objs.size with
    | none => rfl
    | some o => rw [P.hi.base _ _ y] at hCn; cases hCn
  · obtain ⟨_, o, es, ep, y, _⟩ := P.hi.stk.dict z
    rw [hCn] at y
    cases y
end
end
section
open PySem PySem.W PyProof.Rows PySem.Spec PySem.Calls
set_option maxRecDepth 100000
set_option maxHeartbeats 2000000
/-- a K-walk's ground: what the base holds and the frames' namespaces; all else stands in the ledger -/
structure KG (W : Wd) (A : Around) (fs : List Addr) (h : Heap) (base G : Heap) (l : List Env) (nw : List (Addr × Obj)) : Prop where
  stack : A.frames = some l
  sizeB : @LE.le Nat instLENat base.objs.size h.objs.size
  sizeG : @LE.le Nat instLENat G.objs.size h.objs.size
  sub : ∀ b o, G.get? b = some o → h.get? b = some o
  subB : ∀ b o, base.get? b = some o → G.get? b = some o
  stays : W.base.StaysIn base
  frames : G.FunFrames base l
  news : ∀ p ∈ nw, h.get? p.1 = some p.2 ∧ G.get? p.1 = none ∧ base.get? p.1 = none
  all : ∀ b o, h.get? b = some o → b ∉ fs → base.get? b = some o ∨ (b, o) ∈ nw
  fr : ∀ b o, h.get? b = some o → b ∈ fs → G.get? b = some o ∧ ∃ es ep, o.data = .dict es ep
  data : ∀ b o, h.get? b = some o → W.base.get? b = none → b ∉ fs → (b, o) ∈ nw
theorem gone_size (h : Heap) : ∀ l : List Addr, (TI.gone h l).objs.size = h.objs.size
  | [] => rfl
  | a :: l => by
    unfold TI.gone
    rw [Heap.size_update]
    exact gone_size h l
theorem kg_make {W : Wd} {n : Nat} {A : Around} {fs : List Addr} {h : Heap} {L : Lg} (H : HI W n A fs h L) : ∃ base G l news, KG W A fs h base G l news := by
  classical
  obtain ⟨l, frs, h1, h2, h3, h4⟩ := H.stk
  let others : List Addr := (List.range h.objs.size).filter fun b => decide (W.base.get? b = none ∧ b ∉ fs ∧ h.get? b ≠ none)
  have ho : ∀ b, b ∈ others ↔ (W.base.get? b = none ∧ b ∉ fs ∧ h.get? b ≠ none) := fun b => by
    rw [List.mem_filter, decide_eq_true_iff]
    refine ⟨fun x => x.2, fun x => ⟨List.mem_range.mpr ?_, x⟩⟩
    cases q : h.get? b with
    | none => exact (x.2.2 q).elim
    | some o => exact Heap.lt_size q
  have hf : ∀ p ∈ frs, p.1 ∈ fs := fun p hp => h3 ▸ List.mem_map_of_mem hp
  have hfo : ∀ b ∈ fs, b ∉ others := fun b hb q => ((ho b).mp q).2.1 hb
  refine ⟨TI.gone h (others ++ fs), TI.gone h others, l, others.filterMap (fun b => (h.get? b).map fun o => (b, o)), ⟨h1, by rw [gone_size]; exact Nat.le_refl _, by rw [gone_size]; exact Nat.le_refl _, fun b o e => (TI.gone_some e).2, fun b o e => ?_, fun b o e => ?_, ?_, fun p hp => ?_, fun b o e hb => ?_, fun b o e hb => ?_, fun b o e hb hb2 => ?_⟩⟩
  · obtain ⟨q1, q2⟩ := TI.gone_some e
    rw [TI.gone_get fun z => q1 (List.mem_append_left _ z)]
    exact q2
  · have hb : b ∉ others := fun z => by rw [((ho b).mp z).1] at e; cases e
    rw [TI.gone_get fun z => (List.mem_append.mp z).elim hb fun z => off_base H.stk e z]
    exact H.base b o e
  · refine h2.fun fun p hp => ⟨?_, TI.gone_none (List.mem_append_right _ (hf p hp))⟩
    rw [TI.gone_get (hfo _ (hf p hp))]
    exact (h4 p hp).1
  · obtain ⟨b, hb, e⟩ := List.mem_filterMap.mp hp
    cases q : h.get? b with
    | none => rw [q] at e; cases e
    | some o =>
      rw [q] at e
      cases e
      exact ⟨q, TI.gone_none hb, TI.gone_none (List.mem_append_left _ hb)⟩
  · by_cases q : b ∈ others
    · exact .inr (List.mem_filterMap.mpr ⟨b, q, by rw [e]; rfl⟩)
    · exact .inl ((TI.gone_get fun z => (List.mem_append.mp z).elim q hb).trans e)
  · refine ⟨(TI.gone_get (hfo b hb)).trans e, ?_⟩
    obtain ⟨_, o', es, ep, e', d⟩ := H.stk.dict hb
    rw [e] at e'
    cases e'
    exact ⟨es, ep, d⟩
  · exact List.mem_filterMap.mpr ⟨b, (ho b).mpr ⟨hb, hb2, by rw [e]; simp⟩, by rw [e]; rfl⟩
end
section
open PySem PySem.W PyProof.Rows PySem.Spec PySem.Calls
set_option maxRecDepth 100000
set_option maxHeartbeats 4000000
def STOPL (P : Prop) : Prop := P
theorem stop_l {P : Prop} (h : STOPL P) : P := h
local macro_rules | `(tactic| walk_at "getAttr ref") => `(tactic| (k_here; (with_reducible show wpAny _ _ (getAttr (Value.ref _) (PySem.Str.ofString "__contains__") _) _ _ _); k_dflt (refine' ga_contains_K ?k1 ?k2 ?k3 ?_; (case k1 | k2 => k_asm); (case k3 => k_mem); k_whole); intro q' h' F' N' l1; (try k_lt l1)))
local macro_rules | `(tactic| walk_at "call builtin:iter") => `(tactic| (k_here; (with_reducible show wpAny _ _ (call (Value.builtin "iter") [Value.ref _]) _ _ _); k_dflt (refine' iter_list_K ?k1 ?k2 ?k3 ?_; (case k1 | k2 => k_asm); (case k3 => exact News.isList (by k_asm) (by k_mem)); k_whole); intro q' h' F' N' l1; (try k_lt l1)))
local macro_rules | `(tactic| k_room) => `(tactic| ((simp only [depth_under_make, depth_under_kw, depth_in1, depth_deeper, depth_caller] at *); omega))
local macro_rules | `(tactic| walk_at "call type:list") => `(tactic| refine stop_l ?_)
abbrev sc58 : Scope := { kind := .function, names := [("flist", .local), ("skip", .local), ("list", .globalImplicit), ("filterfalse", .globalImplicit)], isGenerator := false, isCoroutine := false }
theorem top_le {q : Nat} {nw : List (Addr × Obj)} (h : ∀ p ∈ nw, p.1 < q) : @LE.le Nat instLENat (top nw) q := by
  induction nw with
  | nil => exact Nat.zero_le _
  | cons p r ih => exact Nat.max_le.mpr ⟨h p (.head _), ih fun p hp => h p (.tail _ hp)⟩
theorem ints_pick {us : List Value} {ns : List Int} (h : IntsAre us ns) {is : List Nat} (hi : ∀ j ∈ is, j < ns.length) : IntsAre (is.map fun j => us.getD j .none) (is.map fun j => ns.getD j 0) := by
  induction is with
  | nil => exact .nil
  | cons j r ih =>
    have hj := hi j (.head _)
    obtain ⟨t, e⟩ := h.get j ns[j] (List.getElem?_eq_getElem hj)
    rw [List.map_cons, List.map_cons]
    rw [show us.getD j .none = .int ns[j] t by rw [List.getD_eq_getElem?_getD, e]; rfl, show ns.getD j 0 = ns[j] by rw [List.getD_eq_getElem?_getD, List.getElem?_eq_getElem hj]; rfl]
    exact .cons _ _ (ih fun k hk => hi k (.tail _ hk))
theorem out_list' {W : Wd} {n : Nat} {A : Around} {fs : List Addr} {s : Shared} {L : Lg} {es : List D} {Q : Value → Shared → Prop} (H : HI W n A fs s.heap L) (k : ∀ v h' tk L', Arr W n A fs s.heap L h' L' → Rep L' v (.list es) → Q v { s with heap := h', toks := tk }) {us : List Value} {a : Addr} {c : Nat} {h' : Heap} {tk : Nat} (hk : Kp fs s.heap h')
    (hn : s.heap.get? a = none) (ha : h'.get? a = some (lob us c)) (r : Reps L us es) : Q (.ref a) { s with heap := h', toks := tk } := by
  have H' := H.kp hk
  refine k (.ref a) h' tk ⟨(a, lob us c) :: L.led, L.ow⟩ ⟨⟨H'.handled, H'.room, H'.units, H'.stk, H'.base, fun p hp => ?_, H.nb.cons (H.fresh hn)⟩, hk, [(a, lob us c)], rfl, fun p hp => ?_⟩ ?_
  · rcases List.mem_cons.mp hp with rfl | hp
    · exact ⟨ha, rfl⟩
    · exact H'.led p hp
  · rw [List.mem_singleton.mp hp]; exact hn
  · exact .list (.head _) (Reps.mono (L' := ⟨(a, lob us c) :: L.led, L.ow⟩) ⟨fun p hp => List.mem_cons_of_mem _ hp, fun _ _ z => z⟩ r)
theorem filter_op {W : Wd} [Quiet W] (hK : W.K = hd01.heap_1 W.w.params) {p : Program} {loose : List Str} {mean : ExcName → Option Value} {mg mb : Str → Option Value} (T : Top p loose mean mg mb W.base) {n : Nat} {ns1 ns2 : List Int} (hz : ns1.length ≤ 1000) :
    OpN W (n + 4) (callT (.ref 58)) [.list (ns1.map .int), .list (ns2.map .int)] (.list ((ns1.filter fun x => !ns2.contains x).map .int)) := by
  intro A fs Lg0 vs Rs s Q H k
  obtain ⟨v, v', rfl, R1, R2⟩ := Rs.two
  obtain ⟨l1, us1, c1, rfl, m1, r1⟩ := R1.listE
  obtain ⟨l2, us2, c2, rfl, m2, r2⟩ := R2.listE
  have i1 := r1.ints
  have i2 := r2.ints
  obtain ⟨base', G, l, nw, KX⟩ := kg_make H
  have hm1 : (l1, listOf us1.toArray c1) ∈ nw := KX.data _ _ (H.led _ m1).1 (H.nb.1 _ m1 rfl) (off_data H.stk (H.led _ m1).1 rfl)
  have hm2 : (l2, listOf us2.toArray c2) ∈ nw := KX.data _ _ (H.led _ m2).1 (H.nb.1 _ m2 rfl) (off_data H.stk (H.led _ m2).1 rfl)
  have stG : W.base.StaysIn G := fun b o e => KX.subB b o (KX.stays b o e)
  have XG : (hd01.heap_1 W.w.params).In G := by rw [← hK]; exact fun a o e => stG a o (W.X a o e)
  have TG : Top p loose mean mg mb G := T.keeps stG
  have BG : Below A base' l G := ⟨KX.stack, KX.subB, KX.frames⟩
  have hst := KX.stack
  have hroom := H.room
  have hunits := H.units
  have hh := H.handled Quiet.q
  cases A with
  | mk ahd dp afr gd un =>
  dsimp only at hst hroom hunits hh
  subst hst
  subst hh
  refine (?_ : PySem.Challenge.rw_il0165_01.most = some 63 → (hd01.heap_1 W.w.params).In G → _) rfl XG
  k_fill
  intro _ XG'
  refine wpAny_call ?_
  refine codeAny_call_def (o := ?o) (fd := ?fd) (body := ?body) (binds := [("flist", .ref l1), ("skip", .ref l2)]) ?hroom ?ho ?hdata ?hlim ?hcd ?hbody ?hbind ?hcell ?hloc ?_ ?hco ?hgen ?hk
  case ho => exact KX.sub _ _ (XG' _ _ (by with_unfolding_all rfl))
  case hdata => rfl
  case hroom => (show dp < recursionLimit; omega)
  case hlim => exact W.nolim.keeps H.base
  case hcd => exact codeRec_of (fun a o e => KX.sub a o (XG' a o e)) (by with_unfolding_all rfl)
  case hbody => rfl
  case hbind => exact BindsTo.of_eq rfl
  case hco => rfl
  case hgen => rfl
  case hk => rfl
  case hcell => decide
  case hloc => exact locs rfl
  intro h₁ hns hkeep
  have F' : Fr G s.heap.objs.size h₁ _ := ⟨hns, fun b o e => hkeep b o (KX.sub b o e), KX.sizeG⟩
  have N' : News G s.heap.objs.size h₁ nw := fun p hp => ⟨hkeep _ _ (KX.news p hp).1, Nat.ne_of_lt (Heap.lt_size (KX.news p hp).1), (KX.news p hp).2.1⟩
  have fin : ∀ (m' : Str → Option Value) (h' : Heap) (tk : Nat) (I x d q : Addr) (EE : Value → Shared → Prop), Fr G s.heap.objs.size h' m' → News G s.heap.objs.size h' ((I, liObj l1 0) :: (x, ffInst d q I) :: (d, dictOf [] 0) :: (q, mwObj l2) :: nw) →
      (∀ p ∈ nw, p.1 < q) → @LT.lt Nat instLTNat q d → @LT.lt Nat instLTNat d x → @LT.lt Nat instLTNat x I →
      wpAny (model W.prog W.w) (({ depth := dp, frames := some l, guards := gd, units := un } : Around).deeper (envOf "_filter" sc58 s.heap.objs.size 58 (.ref 57))) (call (.type "list") [.ref x]) (fun v s' => Q v s') EE { s with heap := h', toks := tk } := by
    intro m' h' tk I x d q EE F9 N9 lq lq' ld lI
    have htop := top_le lq
    have hlen1 := i1.length
    have kl : (kIdx ns1 ns2).length ≤ 1000 := Nat.le_trans (List.length_filter_le _ _) (by rw [List.length_range]; exact hz)
    have BA : Below ({ depth := dp, frames := some l, guards := gd, units := un } : Around) base' l G := BG
    have XK : ∀ h, Fr G s.heap.objs.size h m' → (hd01.heap_1 W.w.params).In h := fun h F => XG'.keeps F.keep
    have posle : ∀ i, i ≤ (kIdx ns1 ns2).length → kPos ns1 ns2 i ≤ ns1.length := fun i hi => by
      cases i with
      | zero => exact Nat.zero_le _
      | succ i =>
        have hil : i < (kIdx ns1 ns2).length := by omega
        show (kIdx ns1 ns2).getD i 0 + 1 ≤ _
        rw [List.getD_eq_getElem?_getD, List.getElem?_eq_getElem hil]
        exact (kIdx_lt (List.getElem?_eq_getElem hil)).1
    refine list_ownZ (C := 47) (ys := (kIdx ns1 ns2).map fun j => us1.getD j .none) (fun S i => (I, liObj l1 (kPos ns1 ns2 i)) :: (x, ffInst d q I) :: (d, dictOf [] 0) :: (q, mwObj l2) :: nw)
      (fun S o h'' => G.get? S = none ∧ G.UpToSlots h'' ∧ Fr base' s.heap.objs.size h'' m' ∧ News base' s.heap.objs.size h'' ((S, o) :: (I, { cls := .type "list_iterator", data := .fields #[.none, .int ns1.length 0] }) :: (x, ffInst d q I) :: (d, dictOf [] 0) :: (q, mwObj l2) :: nw))
      (by rw [List.length_map, sizeLine_eq]; omega) F9 N9 (Heap.lt_size (N9 _ (.tail _ (.head _))).1) (fun h F N => (inst_ff N (.tail _ (.head _)) (.tail _ (.tail _ (.head _)))).type) (fun h F => looks_findIn (XK h F) (by with_unfolding_all rfl)) (fun h F => looks_findIn (XK h F) (by with_unfolding_all rfl)) ?_ ?_ ?_ ?_ ?_
    · intro S s' o Q' E' lt F N q'
      exact iterW (news := (S, o) :: (I, liObj l1 0) :: (x, ffInst d q I) :: (d, dictOf [] 0) :: (q, mwObj l2) :: nw) BA F XG' TG N (.tail _ (.tail _ (.head _))) (.tail _ (.tail _ (.tail _ (.head _)))) (env0 := envOf "_filter" sc58 s.heap.objs.size 58 (.ref 57)) rfl rfl rfl (by show dp + 1 < recursionLimit; omega) rfl fun h2 t2 F2 N2 => q' h2 t2 F2 N2 fun p hp => hp
    · intro S lt i p hp
      refine Nat.ne_of_lt ?_
      rcases List.mem_cons.mp hp with rfl | hp
      · exact lt (I, liObj l1 0) (.head _)
      · exact lt p (.tail _ hp)
    · intro S lt i v hv s' o Q' E' F N q'
      have hil : i < (kIdx ns1 ns2).length := by
        have := (List.getElem?_eq_some_iff.mp hv).1
        simpa using this
      have hki := List.getElem?_eq_getElem hil
      refine nextW (i := kPos ns1 ns2 i) (env0 := envOf "_filter" sc58 s.heap.objs.size 58 (.ref 57)) BA F XG' TG N rfl rfl rfl (by show dp + 1 < recursionLimit; omega) rfl hm1 hm2 i1 i2 ⟨htop, lq', ld, lI, lt (I, liObj l1 0) (.head _)⟩ ?_ KX.sizeB ?_ (posle i (Nat.le_of_lt hil))
      · intro k' a t h2 t2 b1 b2 b3 b4 b5 F2 N2
        have hk'l := (List.getElem?_eq_some_iff.mp b2).1
        have hga : ns1.getD k' 0 = a := by rw [List.getD_eq_getElem?_getD, b2]; rfl
        have hm := kIdx_lt hki
        have hkm : k' = (kIdx ns1 ns2)[i] := by
          rcases Nat.lt_trichotomy k' (kIdx ns1 ns2)[i] with z | z | z
          · have := kIdx_gap (Nat.le_of_lt hil) b1 (fun k e => by rw [hki] at e; cases e; exact z) hk'l
            rw [hga, b3] at this
            cases this
          · exact z
          · obtain ⟨b, e1, e2⟩ := b4 _ (kPos_le hki) z
            have := hm.2
            rw [List.getD_eq_getElem?_getD, e1] at this
            rw [show (some b).getD 0 = b from rfl, e2] at this
            cases this
        have hv' : v = .int a t := by
          rw [List.getElem?_map, hki] at hv
          have hv := Option.some.inj hv
          rw [← hv, ← hkm]
          show us1.getD k' .none = _
          rw [List.getD_eq_getElem?_getD, b5]; rfl
        rw [← hv']
        refine q' h2 t2 F2 ?_
        show News G _ h2 ((S, o) :: (I, liObj l1 (kPos ns1 ns2 (i + 1))) :: _)
        rw [kPos_succ hki, ← hkm]
        exact N2
      · intro hall
        exfalso
        have hm := kIdx_lt hki
        have := hall _ ns1[(kIdx ns1 ns2)[i]] (kPos_le hki) (List.getElem?_eq_getElem hm.1)
        have h2 := hm.2
        rw [List.getD_eq_getElem?_getD, List.getElem?_eq_getElem hm.1] at h2
        rw [show (some ns1[(kIdx ns1 ns2)[i]]).getD 0 = ns1[(kIdx ns1 ns2)[i]] from rfl, this] at h2
        cases h2
    · intro S lt s' o Q' E' F N q'
      rw [List.length_map] at N
      have gap : ∀ j, kPos ns1 ns2 (kIdx ns1 ns2).length ≤ j → j < ns1.length → ns2.contains (ns1.getD j 0) = true := fun j h1 h2 =>
        kIdx_gap (Nat.le_refl _) h1 (fun k e => by rw [List.getElem?_eq_none (Nat.le_refl _)] at e; cases e) h2
      refine nextW (i := kPos ns1 ns2 (kIdx ns1 ns2).length) (env0 := envOf "_filter" sc58 s.heap.objs.size 58 (.ref 57)) BA F XG' TG N rfl rfl rfl (by show dp + 1 < recursionLimit; omega) rfl hm1 hm2 i1 i2 ⟨htop, lq', ld, lI, lt (I, liObj l1 0) (.head _)⟩ ?_ KX.sizeB ?_ (posle _ (Nat.le_refl _))
      · intro k' a t h2 t2 b1 b2 b3 b4 b5 F2 N2
        exfalso
        have := gap k' b1 (List.getElem?_eq_some_iff.mp b2).1
        rw [List.getD_eq_getElem?_getD, b2, show (some a).getD 0 = a from rfl, b3] at this
        cases this
      · intro hall h2 t2 U2 F2 N2
        exact q' h2 t2 ⟨(N _ (.head _)).2.2, U2, F2, N2⟩
    · intro S h'' tk'' c lt Z
      obtain ⟨z1, z2, z3, z4⟩ := Z
      have hSn : s.heap.get? S = none := by
        cases e : s.heap.get? S with
        | none => rfl
        | some o =>
          exfalso
          by_cases hS : S ∈ fs
          · rw [(KX.fr S o e hS).1] at z1; cases z1
          · rcases KX.all S o e hS with q1 | q1
            · rw [KX.subB S o q1] at z1; cases z1
            · exact Nat.lt_irrefl _ (lt (S, o) (.tail _ (.tail _ (.tail _ (.tail _ q1)))))
      have kp : Kp fs s.heap h'' := ⟨fun b o e hb => by
        rcases KX.all b o e hb with q1 | q1
        · exact z3.keep b o q1
        · exact (z4 _ (.tail _ (.tail _ (.tail _ (.tail _ (.tail _ q1)))))).1, fun b o e hb => by
        obtain ⟨q1, es, ep, q2⟩ := KX.fr b o e hb
        exact z2 b o q1 fun vs z => by rw [q2] at z; cases z⟩
      refine out_list' H k kp hSn (z4 _ (.head _)).1 ?_
      rw [← kIdx_vals]
      refine Reps.of_ints (ints_pick i1 ?_)
      intro j hj
      obtain ⟨i, hi, e⟩ := List.mem_iff_getElem.mp hj
      exact (kIdx_lt (by rw [List.getElem?_eq_getElem hi, e])).1
  refine (?_ : wpAny (model W.prog W.w) (({ depth := dp, frames := some l, guards := gd, units := un } : Around).deeper (envOf "_filter" sc58 s.heap.objs.size 58 (.ref 57))) (execs ?b (envOf "_filter" sc58 s.heap.objs.size 58 (.ref 57))) ?QQ ?EE ?SS)
  k_steps
  unfold STOPL
  rename Fr G s.heap.objs.size (Shared.heap _) _ => kF9
  rename News G s.heap.objs.size (Shared.heap _) _ => kN9
  refine fin _ _ _ _ _ _ _ _ kF9 kN9 ?_ ?_ ?_ ?_
  all_goals first | omega | assumption | (exact ‹_ ∧ _›.1) | skip
end
section
open PySem PySem.W PyProof.Rows PySem.Spec PySem.Calls
set_option maxRecDepth 100000
set_option maxHeartbeats 1000000
/-- an IndexError, just raised; hr: the heap before it; c: the exception it was raised under -/
structure XRaw (c : Value) (hr h : Heap) (e : Addr) : Prop where
  keeps : ∀ b o, hr.get? b = some o → h.get? b = some o
  new : hr.get? e = none
  there : ∃ oe vs, h.get? e = some oe ∧ oe.cls = .type "IndexError" ∧ oe.data = .fields vs ∧ vs[1]? = some .none ∧ vs[2]? = some c
theorem XRaw.of_new {hr h : Heap} {e : Addr} (x : Heap.NewExc hr h e "IndexError") : XRaw .none hr h e := by
  obtain ⟨ob, t, h1, h2, h3⟩ := x.there
  exact ⟨x.keeps, x.new, ob, _, h1, h2, h3, rfl, rfl⟩
/-- an IndexError with a traceback whose flight mark is fl -/
structure XAt (fs : List Addr) (l : List Env) (fl c : Value) (hr h : Heap) (e : Addr) : Prop where
  st : (TI.gone hr fs).StaysIn h
  new : (TI.gone hr fs).get? e = none
  ff : h.FunFrames (TI.gone hr fs) l
  tr : ∃ oe vs T oT ts, h.get? e = some oe ∧ oe.cls = .type "IndexError" ∧ oe.data = .fields vs ∧ vs[1]? = some (.ref T) ∧ vs[2]? = some c ∧ (TI.gone hr fs).get? T = none ∧ T ≠ e ∧ h.get? T = some oT ∧ oT.data = .fields ts ∧ ts[3]? = some fl
  up : hr.UpToSlots h
section
variable {W : Wd} {n : Nat} {A : Around} {fs : List Addr} {hr : Heap} {L : Lg} {s : Shared} {E : Value → Shared → Prop} {env : Env} {outer : List Env} {Lc e : Addr} {c : Value}
theorem kp_of {h : Heap} (H : HI W n A fs hr L) (st : (TI.gone hr fs).StaysIn h) (up : hr.UpToSlots h) : Kp fs hr h :=
  ⟨fun b o z hb => st b o ((TI.gone_get hb).trans z), fun b o z hb => up b o z fun vs q => by
    obtain ⟨_, o', es, ep, z', d⟩ := H.stk.dict hb
    rw [z] at z'
    cases z'
    rw [d] at q
    cases q⟩
theorem XAt.kp {h : Heap} {l : List Env} {fl : Value} (H : HI W n A fs hr L) (x : XAt fs l fl c hr h e) : Kp fs hr h := kp_of H x.st x.up
theorem XAt.type {h : Heap} {l : List Env} {fl : Value} (x : XAt fs l fl c hr h e) : ∃ oe, h.get? e = some oe ∧ oe.cls = .type "IndexError" := by
  obtain ⟨oe, vs, T, oT, ts, h1, h2, _⟩ := x.tr
  exact ⟨oe, h1, h2⟩
theorem frames_hr (H : HI W n A fs hr L) (hA : A.frames = some (env :: outer)) : hr.FunFrames (TI.gone hr fs) (env :: outer) := by
  obtain ⟨l, frs, h1, h2, h3, h4⟩ := H.stk
  rw [hA] at h1
  cases h1
  exact h2.fun fun p hp => ⟨(h4 p hp).1, TI.gone_none (h3 ▸ List.mem_map_of_mem hp)⟩
/-- noteFrame at a fresh IndexError -/
theorem note_raw {Q : Unit → Shared → Prop} (H : HI W n A fs hr L) (hA : A.frames = some (env :: outer)) (hf : env.frame = some Lc) (x : XRaw c hr s.heap e) (k : ∀ h', XAt fs (env :: outer) (rawInt Lc) c hr h' e → Q () { s with heap := h' }) : wpAny W.M A (noteFrame (.ref e) env) Q E s := by
  obtain ⟨oe, vs, he, hc, hd, h1, h2⟩ := x.there
  have hff : s.heap.FunFrames (TI.gone hr fs) (env :: outer) := (frames_hr H hA).of_keeps fun b o z _ => ⟨o, x.keeps b o z, rfl⟩
  have hen : (TI.gone hr fs).get? e = none := TI.none_of (fun b o z => (TI.gone_some z).2) x.new
  have hkb : (TI.gone hr fs).StaysIn s.heap := fun b o z => x.keeps b o (TI.gone_some z).2
  have hsz : 1 < vs.size := (Array.getElem?_eq_some_iff.mp h1).1
  have hene : e ∉ (env :: outer).filterMap (·.frame) := fun hm => by
    obtain ⟨_, o, ho, hnf⟩ := hff.mem hm
    rw [he] at ho
    cases ho
    exact hnf vs hd
  unfold noteFrame
  simp only [hf]
  refine wpAny_bind (wpAny_field he hd (x := .none) h1 ?_)
  rw [if_neg (by decide)]
  refine wpAny_bind (wpAny_frameOf_fun hA hff hf fun g hg => ?_)
  refine wpAny_bind (wpAny_entryPlaceOf fun pl hpl => ?_)
  unfold EntryCells.newEntry newFields
  refine wpAny_bind (wpAny_newObj_type ?_ (hpl.sizeOk5 _ _ _ _ _))
  have eg : g.get? e = some oe := (hg.2.1 e hene).trans he
  have kb : (TI.gone hr fs).StaysIn g := fun b o hbo => (hg.2.1 b fun hm => by rw [(hff.mem hm).1] at hbo; cases hbo).trans (hkb b o hbo)
  generalize hT : ({ cls := Value.type "traceback", dict := none, data := Data.fields ([Value.none, .ref Lc, .none, rawInt Lc, .none] ++ (if pl.isEmpty then List.replicate 6 Value.none else pl)).toArray } : Obj) = oT
  have hTf : oT.isFreed = false := by rw [← hT]; rfl
  refine wpAny_setField (Heap.get?_push_of_some oT eg) hd hsz (k _ ?_)
  have hTe : g.objs.size ≠ e := Nat.ne_of_gt (Heap.lt_size eg)
  have d3 := Obj.data_mapFields hd (·.setIfInBounds 1 (Value.ref g.objs.size))
  have e3 := Heap.get?_update_self (Obj.mapFields (·.setIfInBounds 1 (Value.ref g.objs.size))) (Heap.get?_push_of_some oT eg) (Obj.isFreed_of_fields d3)
  have keep : ∀ b o, b ≠ e → g.get? b = some o → ((g.push oT).update e (Obj.mapFields (·.setIfInBounds 1 (Value.ref g.objs.size)))).get? b = some o := fun b o hbe hb => by
    rw [Heap.get?_update_other _ _ (Ne.symm hbe)]
    exact Heap.get?_push_of_some _ hb
  have ne : ∀ b o, s.heap.get? b = some o → (∀ vs, o.data ≠ .fields vs) → b ≠ e := fun b o hb hnf q => by
    rw [q, he] at hb
    cases hb
    exact hnf vs hd
  refine ⟨fun b o hbo => keep b o (fun q => by rw [q, hen] at hbo; cases hbo) (kb b o hbo), hen, hff.of_keeps fun b o hb hnf => ?_, ?_, fun b o hb hnf => ?_⟩
  · obtain ⟨sl, hs⟩ := hg.2.2 b o hb
    exact ⟨_, keep b _ (ne b o hb hnf) hs, rfl⟩
  · refine ⟨_, _, g.objs.size, oT, _, e3, (Obj.cls_mapFields _ _).trans hc, d3, by simp [hsz], by rw [Array.getElem?_setIfInBounds_ne (by decide)]; exact h2, kb.fresh, hTe, ?_, by rw [← hT], ?_⟩
    · rw [Heap.get?_update_other _ _ (Ne.symm hTe)]
      exact Heap.get?_push_size g hTf
    · first | (simp; done) | (rcases hpl with rfl | ⟨_, _, _, _, _, _, _, rfl⟩ <;> simp)
  · obtain ⟨sl, hs⟩ := hg.2.2 b o (x.keeps b o hb)
    exact ⟨sl, keep b _ (ne b o (x.keeps b o hb) hnf) hs⟩
theorem note_at {Q : Unit → Shared → Prop} {l : List Env} (hf : env.frame = some Lc) (x : XAt fs l (rawInt Lc) c hr s.heap e) (k : Q () s) : wpAny W.M A (noteFrame (.ref e) env) Q E s := by
  obtain ⟨oe, vs, T, oT, ts, he, hcls, hd, hv1, hv2, hnT, hTe, hT, hdT, h3⟩ := x.tr
  unfold noteFrame
  simp only [hf]
  refine wpAny_bind (wpAny_field he hd hv1 ?_)
  rw [if_pos (show (Value.ref T != Value.none) = true from by simp)]
  refine wpAny_bind (wpAny_field hT hdT h3 ?_)
  rw [if_pos (by simp)]
  exact wpAny_pure k
theorem flight {Q : Unit → Shared → Prop} {l : List Env} {fl : Value} {to : Option Addr} (x : XAt fs l fl c hr s.heap e)
    (k : ∀ h', XAt fs l (to.elim .none fun f => rawInt f) c hr h' e → Q () { s with heap := h' }) : wpAny W.M A (setFlight (.ref e) to) Q E s := by
  obtain ⟨h1, hn, hl, ⟨oe, vs, T, oT, ts, he, hcls, hd, hv1, hv2, hnT, hTe, hT, hdT, h3⟩, up⟩ := x
  have hsz3 : 3 < ts.size := (Array.getElem?_eq_some_iff.mp h3).1
  have other : ∀ b, b ≠ T → (s.heap.update T (Obj.mapFields (·.setIfInBounds 3 (to.elim Value.none fun f => rawInt f)))).get? b = s.heap.get? b :=
    fun b hb => Heap.get?_update_other _ _ (Ne.symm hb)
  have noRecord : ∀ b o, s.heap.get? b = some o → (∀ vs, o.data ≠ .fields vs) → b ≠ T := fun b o hb hnf q => by
    rw [q, hT] at hb
    cases hb
    exact hnf ts hdT
  unfold setFlight
  refine wpAny_bind (wpAny_field he hd hv1 ?_)
  rw [if_pos (show (Value.ref T != Value.none) = true from by simp)]
  refine wpAny_setField hT hdT hsz3 (k _ ⟨fun b o hbo => (other b fun q => by rw [q, hnT] at hbo; cases hbo).trans (h1 b o hbo), hn,
    hl.of_keeps fun b o hb hnf => ⟨o, (other b (noRecord b o hb hnf)).trans hb, rfl⟩, ?_, fun b o hb hnf => ?_⟩)
  · exact ⟨oe, vs, T, _, _, (other e (Ne.symm hTe)).trans he, hcls, hd, hv1, hv2, hnT, hTe, Heap.get?_update_self _ hT (Obj.isFreed_of_fields (Obj.data_mapFields hdT _)), Obj.data_mapFields hdT _, by simp [hsz3]⟩
  · obtain ⟨sl, z⟩ := up b o hb hnf
    exact ⟨sl, (other b (noRecord b _ z hnf)).trans z⟩
theorem back_at {l : List Env} {fl : Value} (hf : env.frame = some Lc) (x : XAt fs l fl c hr s.heap e) (k : ∀ h', XAt fs l (rawInt Lc) c hr h' e → E (.ref e) { s with heap := h' }) : cameBackBy W.M A env E (.ref e) s := by
  obtain ⟨oe, vs, T, oT, ts, he, hcls, hd, hv1, r⟩ := x.tr
  unfold cameBackBy
  refine wpAny_bind (wpAny_field he hd hv1 ?_)
  rw [if_neg (by simp)]
  rw [hf]
  exact flight x fun h' z => k h' z
theorem pass_at {α : Type} {Q : α → Shared → Prop} {l : List Env} {fl : Value} (hf : env.frame = some Lc) (x : XAt fs l fl c hr s.heap e) (k : ∀ h', XAt fs l (rawInt Lc) c hr h' e → E (.ref e) { s with heap := h' }) {what : String} : wpAny W.M A (PySem.passOn what (.ref e) env : Sem α) Q E s := by
  obtain ⟨oe, vs, T, oT, ts, he, hcls, hd, hv1, r⟩ := x.tr
  unfold PySem.passOn
  refine wpAny_bind (wpAny_field he hd hv1 ?_)
  rw [if_neg (by simp)]
  rw [hf]
  exact wpAny_bind (flight x fun h' z => wpAny_throw (k h' z))
end
end
section
open PySem PySem.W PyProof.Rows PySem.Spec PySem.Calls
set_option maxRecDepth 100000
set_option maxHeartbeats 1000000
theorem entry_unchain : entryFor table "proto.unchain" = some Builtin.«proto.unchain» := entryFor_of_tree (by kernel_rfl)
/-- the context of the exception at e1 is none -/
def Free1 (h : Heap) (e1 : Addr) : Prop := ∃ oe vs, h.get? e1 = some oe ∧ oe.data = .fields vs ∧ vs[2]? = some .none
section
variable {α : Type} {W : Wd} {A : Around} {E : Value → Shared → Prop} {s : Shared} {e1 : Addr}
theorem raiseNew_h {Q : α → Shared → Prop} {e : Addr} {oe : Obj} {vs : Array Value} (hA : A.handled = some (.ref e1)) (hne : e ≠ e1) (h1 : Free1 s.heap e1) (he : s.heap.get? e = some oe) (hd : oe.data = .fields vs) (hsz : 2 < vs.size)
    (k : E (.ref e) { s with heap := s.heap.update e (Obj.mapFields (·.setIfInBounds 2 (.ref e1))) }) : wpAny W.M A (raiseNew (.ref e) : Sem α) Q E s := by
  obtain ⟨o1, us, g1, g2, g3⟩ := h1
  unfold raiseNew
  refine wpAny_bind (wpAny_handled ?_)
  rw [hA]
  dsimp only
  rw [if_pos (by simpa using fun q => hne q.symm)]
  refine wpAny_bind ?_
  refine wpAny_holding (wpAny_runValue (codeAny_builtin entry_unchain ?_))
  show wpAny _ _ (Builtin.«proto.unchain» ⟨[.ref e, .ref e1, .ref e1, .bool false], []⟩) _ _ _
  unfold Builtin.«proto.unchain»
  refine wpAny_bind (wpAny_field g1 g2 g3 ?_)
  rw [if_pos (by decide)]
  refine wpAny_bind (wpAny_pure (wpAny_pure ?_))
  show wpAny _ _ (do updateField e 2 (.ref e1); throw (.ref e)) _ _ _
  refine wpAny_bind ?_
  exact wpAny_setField he hd hsz (wpAny_throw k)
theorem Free1.push {h : Heap} {o : Obj} (x : Free1 h e1) : Free1 (h.push o) e1 := by
  obtain ⟨oe, vs, h1, h2⟩ := x
  exact ⟨oe, vs, Heap.get?_push_of_some _ h1, h2⟩
theorem made_h {Q : α → Shared → Prop} {t : Value} (hA : A.handled = some (.ref e1)) (h1 : Free1 s.heap e1)
    (k : ∀ h' tk e, XRaw (.ref e1) s.heap h' e → E (.ref e) { s with heap := h', toks := tk }) (tk : Nat) (o : Obj) :
    wpAny W.M A (raiseNew (.ref (s.heap.push o).objs.size) : Sem α) Q E { s with heap := (s.heap.push o).push { cls := .type "IndexError", dict := none, data := .fields (#[t, .none, .none, .none, .bool false, .none] ++ #[]) }, toks := tk } := by
  have hlt : ∀ b ob, s.heap.get? b = some ob → b ≠ (s.heap.push o).objs.size := fun b ob hb q => by
    have h3 := Heap.lt_size hb
    have h4 : (s.heap.push o).objs.size = s.heap.objs.size + 1 := by simp
    rw [q, h4] at h3
    exact Nat.not_lt.mpr (Nat.le_succ _) h3
  obtain ⟨o1, us, g1, g2⟩ := id h1
  have he : ((s.heap.push o).push { cls := .type "IndexError", dict := none, data := .fields (#[t, .none, .none, .none, .bool false, .none] ++ #[]) }).get? (s.heap.push o).objs.size = some _ := Heap.get?_push_size _ rfl
  refine raiseNew_h (s := { s with heap := (s.heap.push o).push { cls := .type "IndexError", dict := none, data := .fields (#[t, .none, .none, .none, .bool false, .none] ++ #[]) }, toks := tk }) hA (fun q => hlt _ _ g1 q.symm) h1.push.push he rfl (by simp) ?_
  refine k _ tk _ ⟨fun b ob hb => ?_, Heap.get?_none_of_le (by simp [Heap.push]), _, _, Heap.get?_update_self _ he (Obj.isFreed_of_fields (Obj.data_mapFields rfl _)), Obj.cls_mapFields _ _, Obj.data_mapFields rfl _, rfl, by simp⟩
  rw [Heap.get?_update_other _ _ (Ne.symm (hlt b ob hb))]
  exact Heap.get?_push_of_some _ (Heap.get?_push_of_some _ hb)
theorem words_h {msg : String} {Q : α → Shared → Prop} (hA : A.handled = some (.ref e1)) (h1 : Free1 s.heap e1)
    (k : ∀ h' tk e, XRaw (.ref e1) s.heap h' e → E (.ref e) { s with heap := h', toks := tk }) : wpAny W.M A (raiseErrorWords "IndexError" msg : Sem α) Q E s := by
  unfold raiseErrorWords
  refine wpAny_bind (wpAny_mkText (wpAny_bind ?_))
  unfold newExc newTuple
  refine wpAny_bind (wpAny_newObj_type ?_)
  refine wpAny_bind (m := firstArgMember _ _) (wpAny_of_eq (a := Value.none) (by simp only [firstArgMember, plainExc_IndexError.first]; rfl) ?_)
  rw [plainExc_IndexError.own]
  refine wpAny_newObj_type ?_
  exact made_h hA h1 k _ _
/-- an index past the end, while an exception is handled -/
theorem get_out_h {l : Addr} {items : Array Value} {k₀ : Int} {t : Tok} {Q : Value → Shared → Prop} (hA : A.handled = some (.ref e1)) (h1 : Free1 s.heap e1) (hl : s.heap.IsList l items) (hout : (items.size : Int) ≤ k₀) (hlo : -(2 ^ 63) ≤ k₀) (hhi : k₀ < 2 ^ 63)
    (k : ∀ h' tk e, XRaw (.ref e1) s.heap h' e → E (.ref e) { s with heap := h', toks := tk }) : wpAny W.M A (getItem (.ref l) (.int k₀ t)) Q E s := by
  obtain ⟨o, ho, hc, ne, hd⟩ := id hl
  unfold getItem
  try with_reducible refine wpAny_holding ?_
  first | refine wpAny_bind (wpAny_pure ?_) | skip
  refine wpAny_bind (wpAny_sequenceKey hl.typeIs (by decide) ?_)
  refine wpAny_bind (wpAny_callSpecial?_slot (name := Str.ofString "__getitem__") hl.typeIs slot_list_getitem
    (wpAny_call_entry slot_list_getitem hl.typeIs entry_list_getitem ?_ (args_list_getitem _ _)))
  show wpAny _ _ (Builtin.List.listSubscript? (.int k₀ t) >>= _) _ _ s
  refine wpAny_bind (wpAny_listSubscript_int (fitsIndex_both hlo hhi) ?_)
  clear hlo hhi
  cases k₀ with
  | negSucc j => exact absurd hout (by have := Int.negSucc_lt_zero j; omega)
  | ofNat j =>
  have hout : items.size ≤ j := by have : (items.size : Int) ≤ (j : Int) := hout; omega
  show wpAny _ _ ((seqItemAt l j >>= fun r => pure (r.map (j, ·))) >>= _) _ _ s
  refine wpAny_bind (wpAny_bind (wpAny_seqItemAt ho hd (wpAny_pure ?_)))
  rw [Array.getElem?_eq_none hout]
  first
    | exact wpAny_bind (wpAny_rule (by first | exact words_h hA h1 k | exact errmade_h hA h1 k))
    | exact wpAny_bind (wpAny_rule (wpAny_bind (by first | exact words_h hA h1 k | exact errmade_h hA h1 k)))
    | exact wpAny_bind (wpAny_bind (wpAny_rule (by first | exact words_h hA h1 k | exact errmade_h hA h1 k)))
    | exact wpAny_rule (by first | exact words_h hA h1 k | exact errmade_h hA h1 k)
end
end
section
open PySem PySem.W PyProof.Rows PySem.Spec PySem.Calls
set_option maxRecDepth 100000
set_option maxHeartbeats 1000000
/-- the same world, while an exception may be handled -/
abbrev Wd.loud (W : Wd) : Wd := { W with quiet := false }
section
variable {W : Wd} {n : Nat} {A : Around} {fs : List Addr} {nm : List (Str × NameKind)} {cs : List Str} {env : Env} {h₀ h h' : Heap} {lo : Nat} {S S' S₁ S₂ : St} {L L' : Lg} {s : Shared} {F : Flo}
theorem HI.loud (H : HI W n A fs h L) (e : Option Value) : HI W.loud n (A.mark e) fs h L := ⟨(fun q => nomatch q), H.room, H.units, H.stk, H.base, H.led, H.nb⟩
theorem HI.calm {e : Option Value} (H : HI W.loud n (A.mark e) fs h L) (q : W.quiet = true → A.handled = none) : HI W n A fs h L := ⟨q, H.room, H.units, H.stk, H.base, H.led, H.nb⟩
theorem Pre.loud (P : Pre W n A fs nm cs env h₀ lo S h L) (e : Option Value) : Pre W.loud n (A.mark e) fs nm cs env h₀ lo S h L :=
  ⟨P.hi.loud e, P.names, P.envk, P.envg, P.envb, P.keep, P.loc, P.locn, P.loco, P.bsz, P.cst, P.cinj, P.vars, P.owns⟩
theorem Pre.calm {e : Option Value} (P : Pre W.loud n (A.mark e) fs nm cs env h₀ lo S h L) (q : W.quiet = true → A.handled = none) : Pre W n A fs nm cs env h₀ lo S h L :=
  ⟨P.hi.calm q, P.names, P.envk, P.envg, P.envb, P.keep, P.loc, P.locn, P.loco, P.bsz, P.cst, P.cinj, P.vars, P.owns⟩
theorem Pre.kp (P : Pre W n A fs nm cs env h₀ lo S h L) (k : Kp fs h h') : Pre W n A fs nm cs env h₀ lo S h' L := P.arr (.of_kp P.hi k)
/-- x += e at numbers -/
theorem ex_aug {x : Str} {p pos : Pos} {value : PySem.Expr} {i j : Int} (hx : storable nm cs x = true) (v₀ : getL x S.vars = some (.int i)) (v : EvD W n nm cs S value (.int j)) (h2 : (x == ("__classdict__" : Str)) = false) :
    Ex W n nm cs S (exec (.AugAssign (.Name x p) .Add value pos)) .next (S.set x (.int (i + j))) := by
  intro A fs env h₀ s L Q P k
  obtain ⟨u, V, R⟩ := P.vars _ (getL_mem v₀)
  cases R with
  | int _ t =>
    refine wpAny_AugAssign_Name (loadName_var P.envk V h2 ?_)
    refine ev_bind v P fun w h1 t1 L1 P1 a1 R1 => ?_
    cases R1 with
    | int _ t' =>
      refine wpAny_iadd_int ?_
      exact store (s := { s with heap := h1, toks := t1 + 1 }) P1 (.int (i + j) t1) (storable_ok hx) fun h2 t2 P2 k2 => k .next h2 t2 L1 .next P2 ((a1.toS P.hi).trans ⟨k2.toS, .refl⟩)
/-- x = y = e -/
theorem ex_two {x y : Str} {p q pos : Pos} {value : PySem.Expr} {d : D} (hx : storable nm cs x = true) (hy : storable nm cs y = true) (v : EvD W n nm cs S value d)
    (hw : ∀ env, swappedStores [.Name x p, .Name y q] value env = pure none) : Ex W n nm cs S (exec (.Assign [.Name x p, .Name y q] value pos)) .next ((S.set x d).set y d) := by
  intro A fs env h₀ s L Q P k
  refine wpAny_Assign_two (ev_bind v P fun v h1 t1 L1 P1 a1 R1 => ?_) rfl (hw env)
  refine wpAny_assign_Name (store P1 R1 (storable_ok hx) fun h2 t2 P2 k2 => ?_)
  refine wpAny_assign_Name (store (s := { s with heap := h2, toks := t2 }) P2 R1 (storable_ok hy) fun h3 t3 P3 k3 => ?_)
  exact k .next h3 t3 L1 .next P3 ((a1.toS P.hi).trans ⟨(k2.trans k3).toS, .refl⟩)
theorem extend_ok {k : Nat} {ds es : List D} {a b : Addr} {vs : List Value} {c : Nat} {Q : Value → Shared → Prop} (P : Pre W n A fs nm cs env h₀ lo S s.heap L) (hk : lo ≤ k) (hds : S.own[k]? = some (.list ds)) (ha : L.ow[k]? = some a) (m : (b, lob vs c) ∈ L.led) (R : Reps L vs es) (hz : ds.length + es.length ≤ 1000000)
    (q : ∀ h', Pre W n A fs nm cs env h₀ lo ⟨S.vars, S.own.set k (.list (ds ++ es))⟩ h' L → KpS s.heap h' → Q .none { s with heap := h' }) : wpAny W.M A (call (.builtin "list.extend") [.ref a, .ref b]) Q NoE s := by
  obtain ⟨us, c₁, e, r⟩ := own_at P hds ha
  have hb := (P.hi.led _ m).1
  have hsz : us.toArray.size + vs.toArray.size ≤ sizeLine := by rw [List.size_toArray, List.size_toArray, r.length, R.length, sizeLine_eq]; omega
  refine call_meets PySem.F.slot_list_extend ⟨_, e, rfl⟩ PySem.F.entry_list_extend (PySem.F.args_list_extend_2 _ _) (AutoSeq1.list_extend_list_list_0 a us.toArray c₁ b vs.toArray c (extend_door hsz) (Nat.le_trans (Nat.le_add_right _ _) hsz)) ⟨e, hb, ?_⟩
  have e2 : us.toArray ++ vs.toArray = (us ++ vs).toArray := by simp
  have ho' : (s.heap.update a (Obj.mapSeq fun x => x ++ vs.toArray)).get? a = some (lob (us ++ vs) (if (us.toArray ++ vs.toArray).size == us.toArray.size then c₁ else c₁ + 1)) := by
    rw [Heap.get?_update_self _ e (by rw [mapSeq_app]; rfl), mapSeq_app, e2]
  exact q _ (P.setOwn ha hk (Heap.SameBut.update ..) ho' ⟨_, _, rfl, r.append R⟩) (.of_but (Heap.SameBut.update ..) e (fun _ q => by cases q) ho')
theorem ex_extend {x : Str} {p apos cpos pos : Pos} {e : PySem.Expr} {k : Nat} {ds es : List D} (hx : EvD W n nm cs S (.Name x p) (.own k)) (hds : S.own[k]? = some (.list ds)) (v : EvD W n nm cs S e (.list es)) (hs : ∀ env, starEach [e] env = [(false, eval e env)]) (hline : (apos.endLine == cpos.line) = true) (hz : ds.length + es.length ≤ 1000000) :
    Ex W n nm cs S (exec (.Expr (.Call (.Attribute (.Name x p) "extend" apos) [e] [] cpos) pos)) .next ⟨S.vars, S.own.set k (.list (ds ++ es))⟩ := by
  intro A fs env h₀ s L Q P q
  refine wpAny_Expr (Call_method1 rfl (hs env) hline (ev_bind hx P fun u h1 t1 L1 P1 a1 R1 => ?_)) (by unfold interactive; rw [P.envk]; rfl) rfl
  cases R1 with
  | @own _ a ha =>
    obtain ⟨vs, c, e1⟩ := own_off P1 (List.mem_of_getElem? ha)
    refine ⟨"list", "list.extend", F.plainAttrs_list, F.slot_list_extend, F.type_list_extend, ⟨_, e1, rfl⟩, (fun b eb => by cases eb; exact ⟨_, e1, rfl⟩), ?_⟩
    have := cw_ok (s := { s with heap := h1, toks := t1 }) (f := .builtin "list.extend") (first := [.ref a]) (pos := cpos) (pos' := cpos) (Q := fun v s' => match v with | .ref _ => False | _ => Q .next s') (.inl fun a e => nomatch e) (EvL.cons v (fun env => (hs env).trans rfl) .nil) P1 fun us h2 t2 L2 a2 R2 => by
      obtain ⟨u, rfl, R3⟩ := R2.one
      obtain ⟨b, ws, c2, rfl, m, r⟩ := R3.listE
      exact extend_ok (s := { s with heap := h2, toks := t2 }) (P1.arr a2) (Nat.zero_le _) hds (a2.le.ow _ _ ha) m r hz fun h3 P3 k3 => q .next h3 t2 L2 .next P3 (((a1.toS P.hi).trans (a2.toS P1.hi)).trans ⟨k3, .refl⟩)
    rw [hs env] at this
    exact this
end
end
section
open PySem PySem.W PyProof.Rows PySem.Spec PySem.Calls
set_option maxRecDepth 100000
set_option maxHeartbeats 1000000
/-- what a new exception is chained to -/
def Cx (A : Around) (c : Value) (h : Heap) : Prop := (A.handled = none ∧ c = .none) ∨ ∃ e1, A.handled = some (.ref e1) ∧ c = .ref e1 ∧ Free1 h e1
theorem Cx.kpS {A : Around} {c : Value} {h h' : Heap} (x : Cx A c h) (k : KpS h h') : Cx A c h' := by
  rcases x with x | ⟨e1, x1, x2, oe, vs, x3, x4, x5⟩
  · exact .inl x
  · exact .inr ⟨e1, x1, x2, oe, vs, k.1 _ _ _ x3 x4, x4, x5⟩
def XE (fs : List Addr) (l : List Env) (Lc : Addr) (c : Value) (hr h : Heap) (e : Addr) : Prop := XRaw c hr h e ∨ XAt fs l (rawInt Lc) c hr h e
/-- an expression that raises IndexError -/
def RzE (W : Wd) (n : Nat) (nm : List (Str × NameKind)) (cs : List Str) (S : St) (e : PySem.Expr) : Prop :=
  ∀ (A : Around) (fs : List Addr) (env : Env) (h₀ : Heap) (s : Shared) (L : Lg) (Q : Value → Shared → Prop) (E : Value → Shared → Prop) (c : Value), Pre W n A fs nm cs env h₀ 0 S s.heap L → Cx A c s.heap →
    (∀ hr h' tk L' e, Arr W n A fs s.heap L hr L' → XRaw c hr h' e → E (.ref e) { s with heap := h', toks := tk }) → wpAny W.M A (eval e env) Q E s
/-- a test that raises IndexError -/
def RzT (W : Wd) (n : Nat) (nm : List (Str × NameKind)) (cs : List Str) (S : St) (e : PySem.Expr) : Prop :=
  ∀ (A : Around) (fs : List Addr) (env : Env) (h₀ : Heap) (s : Shared) (L : Lg) (Q : Bool → Shared → Prop) (E : Value → Shared → Prop) (c : Value), Pre W n A fs nm cs env h₀ 0 S s.heap L → Cx A c s.heap →
    (∀ hr h' tk L' e, Arr W n A fs s.heap L hr L' → XRaw c hr h' e → E (.ref e) { s with heap := h', toks := tk }) → wpAny W.M A (PySem.isTrue e env (eval e env)) Q E s
/-- statements that raise IndexError -/
def RzX (W : Wd) (n : Nat) (nm : List (Str × NameKind)) (cs : List Str) (S : St) (t : Env → Sem Flow) (S' : St) (own : Bool) : Prop :=
  ∀ (A : Around) (fs : List Addr) (env : Env) (outer : List Env) (Lc : Addr) (h₀ : Heap) (s : Shared) (L : Lg) (Q : Flow → Shared → Prop) (E : Value → Shared → Prop) (c : Value), A.frames = some (env :: outer) → env.frame = some Lc → Pre W n A fs nm cs env h₀ 0 S s.heap L → Cx A c s.heap →
    (∀ hr h' tk L' e c', Pre W n A fs nm cs env h₀ 0 S' hr L' → ArrS s.heap L hr L' → XE fs (env :: outer) Lc c' hr h' e → (own = true → c' = c) → E (.ref e) { s with heap := h', toks := tk }) → wpAny W.M A (t env) Q E s
section
variable {W : Wd} {n : Nat} {A : Around} {fs : List Addr} {nm : List (Str × NameKind)} {cs : List Str} {env : Env} {outer : List Env} {Lc : Addr} {h₀ h h' hr : Heap} {lo : Nat} {S S' S₁ S₂ : St} {L L' : Lg} {s : Shared} {F : Flo} {E : Value → Shared → Prop} {c : Value} {e : Addr}
theorem note_any {Q : Unit → Shared → Prop} (H : HI W n A fs hr L) (hA : A.frames = some (env :: outer)) (hf : env.frame = some Lc) (x : XE fs (env :: outer) Lc c hr s.heap e) (k : ∀ h', XAt fs (env :: outer) (rawInt Lc) c hr h' e → Q () { s with heap := h' }) : wpAny W.M A (noteFrame (.ref e) env) Q E s := by
  rcases x with x | x
  · exact note_raw H hA hf x k
  · exact note_at hf x (k s.heap x)
theorem tail_E {value slice : PySem.Expr} {o i : Value} {T id : String} {ops : List Value} {Q : Value → Shared → Prop} (hT : s.TypeIs o T)
    (hl : typeLookup (.type T) "__getitem__" = pure (some (.builtin id))) (hs : subscripted slice false o i = operate ops (getItem o i)) (h : wpAny W.M A (getItem o i) Q E s) :
    wpAny W.M A (subscriptTail value slice o i) Q E s := by
  unfold subscriptTail
  refine wpAny_bind ?_
  rw [getitemInPython_of_ne hT.not_modules]
  refine wpAny_bind (wpAny_specialOf hT hl ?_)
  have fin : wpAny W.M A (subscripted slice false o i) (fun r s₃ => wpAny W.M A (letTemporaryGo value o r >>= fun _ => pure r) Q E s₃) E s := by
    rw [hs]
    exact wpAny_operating (wpAny_mono h (fun r s₃ h₃ => wpAny_bind (wpAny_letTemporaryGo (wpAny_pure h₃))) fun _ _ x => x)
  first
    | exact wpAny_pure (wpAny_bind fin)
    | exact wpAny_bind (wpAny_pure (wpAny_bind fin))
    | exact wpAny_bind fin
theorem rz_item {value slice : PySem.Expr} {pos : Pos} {ds : List D} {k : Int} (x : EvD W n nm cs S value (.list ds)) (y : EvD W n nm cs S slice (.int k)) (hsl : isSlice slice = false) (hk : (ds.length : Int) ≤ k) (hk2 : k < 2 ^ 63) : RzE W n nm cs S (.Subscript value slice pos) := by
  intro A fs env h₀ s L Q E c P hC hE
  refine Subscript_ (anyE (ev_bind x P fun v₁ h1 t1 L1 P1 a1 R1 => ?_))
  refine anyE (ev_bind y P1 fun v₂ h2 t2 L2 P2 a2 R2 => ?_)
  obtain ⟨a, us, q, rfl, m, r⟩ := (R1.mono a2.le).listE
  cases R2 with
  | int _ t =>
    have hl := (P2.hi.led _ m).1
    have hlen : (us.toArray.size : Int) ≤ k := by rw [List.size_toArray, r.length]; exact hk
    have hlo : -(2 ^ 63) ≤ k := Int.le_trans (by decide) (Int.le_trans (Int.natCast_nonneg ds.length) hk)
    have is : (Shared.heap { s with heap := h2, toks := t2 }).IsList a us.toArray := ⟨_, hl, rfl, _, rfl⟩
    have ar := a1.trans a2
    have hC2 := hC.kpS (ar.toS P.hi).kp
    refine tail_E (T := "list") (id := "list.__getitem__") ⟨_, hl, rfl⟩ F.slot_list_getitem.lookup (subscripted_plain hsl) ?_
    rcases hC2 with ⟨c1, rfl⟩ | ⟨e1, c1, rfl, c2⟩
    · exact wpAny_getItem_list_out c1 is (.inr hlen) hlo hk2 fun h' tk e N => hE h2 h' tk L2 e ar (XRaw.of_new N)
    · exact get_out_h c1 c2 is hlen hlo hk2 fun h' tk e N => hE h2 h' tk L2 e ar N
theorem rz_assign {x : Str} {p pos : Pos} {value : PySem.Expr} (hc : isComp value = false) (v : RzE W n nm cs S value) : RzX W n nm cs S (exec (.Assign [.Name x p] value pos)) S true := by
  intro A fs env outer Lc h₀ s L Q E c hA hf P hC hE
  exact wpAny_Assign_Name (v A fs env h₀ s L _ E c P hC fun hr h' tk L' e a x => hE hr h' tk L' e c (P.arr a) (a.toS P.hi) (.inl x) fun _ => rfl) (swaps_no hc)
theorem rz_cmp {l r : PySem.Expr} {op : CmpOp} {pos : Pos} (x : RzE W n nm cs S l) (hm : behindInMarks op r = false) : RzT W n nm cs S (.Compare l [op] [r] pos) := by
  intro A fs env h₀ s L Q E c P hC hE
  exact wpAny_isTrue_Compare1 (x A fs env h₀ s L _ E c P hC hE) hm
theorem rz_head {ow : Bool} {st : PySem.Stmt} {rest : List PySem.Stmt} (x : RzX W n nm cs S (exec st) S' ow) : RzX W n nm cs S (execs (st :: rest)) S' ow := by
  intro A fs env outer Lc h₀ s L Q E c hA hf P hC hE
  exact wpAny_execs_cons (x A fs env outer Lc h₀ s L _ E c hA hf P hC hE)
theorem rz_tail {ow : Bool} {st : PySem.Stmt} {rest : List PySem.Stmt} (x : Ex W n nm cs S (exec st) .next S₁) (y : RzX W n nm cs S₁ (execs rest) S' ow) : RzX W n nm cs S (execs (st :: rest)) S' ow := by
  intro A fs env outer Lc h₀ s L Q E c hA hf P hC hE
  refine wpAny_execs_cons (anyE (x A fs env h₀ s L _ P fun f h1 t1 L1 f1 P1 a1 => ?_))
  cases f1
  exact y A fs env outer Lc h₀ { s with heap := h1, toks := t1 } L1 Q E c hA hf P1 (hC.kpS a1.kp) fun hr h' tk L' e c' P2 a2 x o => hE hr h' tk L' e c' P2 (a1.trans a2) x o
theorem rz_if {ow : Bool} {test : PySem.Expr} {body orelse : List PySem.Stmt} {pos : Pos} {b : Bool} (t : TsU W n nm cs S test b) (y : RzX W n nm cs S (execs (if b then body else orelse)) S' ow) : RzX W n nm cs S (exec (.If test body orelse pos)) S' ow := by
  intro A fs env outer Lc h₀ s L Q E c hA hf P hC hE
  refine wpAny_If (anyE (t A fs env h₀ 0 s L _ P fun h1 t1 L1 a1 => ?_))
  have a1' := a1.toS P.hi
  have := y A fs env outer Lc h₀ { s with heap := h1, toks := t1 } L1 Q E c hA hf (P.arr a1) (hC.kpS a1'.kp) fun hr h' tk L' e c' P2 a2 x o => hE hr h' tk L' e c' P2 (a1'.trans a2) x o
  cases b <;> exact this
/-- a while whose first test raises -/
theorem rz_while {test : PySem.Expr} {body orelse : List PySem.Stmt} {pos : Pos} (t : RzT W n nm cs S test) : RzX W n nm cs S (exec (.While test body orelse pos)) S true := by
  intro A fs env outer Lc h₀ s L Q E c hA hf P hC hE
  refine wpAny_While (codeAny_whileLoop (fun m s' => s' = s) ?_ 0 rfl)
  rintro m s' rfl
  refine t A fs env h₀ s' L _ _ c P hC fun hr h' tk L' e a x => ?_
  have P1 := P.arr a
  show wpAny W.M A (noteFrame (.ref e) env) _ _ _
  refine note_raw (s := { s' with heap := h', toks := tk }) P1.hi hA hf x fun h2 x2 => ?_
  exact back_at (s := { s' with heap := h2, toks := tk }) hf x2 fun h3 x3 => hE hr h3 tk L' e c P1 (a.toS P.hi) (.inr x3) fun _ => rfl
theorem RzX.weak {t : Env → Sem Flow} {ow : Bool} (x : RzX W n nm cs S t S' ow) : RzX W n nm cs S t S' false := by
  intro A fs env outer Lc h₀ s L Q E c hA hf P hC hE
  exact x A fs env outer Lc h₀ s L Q E c hA hf P hC fun hr h' tk L' e c' P' a x _ => hE hr h' tk L' e c' P' a x fun q => nomatch q
end
end
section
open PySem PySem.W PyProof.Rows PySem.Spec PySem.Calls
set_option maxRecDepth 100000
set_option maxHeartbeats 1000000
/-- statements of a def's body that may try -/
def ExT (W : Wd) (n : Nat) (nm : List (Str × NameKind)) (cs : List Str) (S : St) (t : Env → Sem Flow) (F : Flo) (S' : St) : Prop :=
  ∀ (A : Around) (fs : List Addr) (env : Env) (outer : List Env) (Lc : Addr) (h₀ : Heap) (s : Shared) (L : Lg) (Q : Flow → Shared → Prop), A.frames = some (env :: outer) → env.frame = some Lc → A.handled = none → Pre W n A fs nm cs env h₀ 0 S s.heap L →
    (∀ f h' tk L', FloIs L' f F → Pre W n A fs nm cs env h₀ 0 S' h' L' → ArrS s.heap L h' L' → Q f { s with heap := h', toks := tk }) → wpAny W.M A (t env) Q NoE s
theorem isExc_IE : isSubtype (.type "IndexError") (.type "BaseException") = pure true := by rw [isSubtype_type]; kernel_rfl
theorem self_IE : isSubtype (.type "IndexError") (.type "IndexError") = pure true := by rw [isSubtype_type]; kernel_rfl
theorem meta_IE : isSubtype (.type ((Manifest.find? "IndexError").elim "type" fun x => x.metatype)) (.type "tuple") = pure false := by rw [isSubtype_type]; kernel_rfl
theorem bb_IE : bootBuiltins "IndexError" = some (.type "IndexError") := by first | rfl | kernel_rfl | with_unfolding_all rfl
section
variable {W : Wd} {n : Nat} {A : Around} {fs : List Addr} {nm : List (Str × NameKind)} {cs : List Str} {env : Env} {outer : List Env} {Lc : Addr} {h₀ h h' hr : Heap} {lo : Nat} {S S' S₁ S₂ : St} {L L' : Lg} {s : Shared} {F : Flo} {E : Value → Shared → Prop} {c : Value} {e : Addr}
theorem Ex.toT {t : Env → Sem Flow} (x : Ex W n nm cs S t F S') : ExT W n nm cs S t F S' := fun A fs env outer Lc h₀ s L Q hA hf hh P k => x A fs env h₀ s L Q P k
theorem try_ok {body : List PySem.Stmt} {h1 : ExceptHandler} {hs : List ExceptHandler} {pos : Pos} (x : ExT W n nm cs S (execs body) .next S') : ExT W n nm cs S (exec (.Try body (h1 :: hs) [] [] pos)) .next S' := by
  intro A fs env outer Lc h₀ s L Q hA hf hh P k
  refine wpAny_Try_except (anyE (x A fs env outer Lc h₀ s L _ hA hf hh P fun f h1 t1 L1 f1 P1 a1 => ?_))
  cases f1
  exact wpAny_execs_nil (k .next h1 t1 L1 .next P1 a1)
theorem try_exc {ow : Bool} {body suite : List PySem.Stmt} {b0 : PySem.Stmt} {p hp pos : Pos} (hn : nm.lookup ("IndexError" : Str) = some .globalImplicit) (hg : W.mg "IndexError" = none) (x : RzX W n nm cs S (execs body) S₁ ow) (y : Ex W.loud n nm cs S₁ (execs (b0 :: suite)) F S₂) :
    ExT W n nm cs S (exec (.Try body [.ExceptHandler (some (.Name "IndexError" p)) none (b0 :: suite) hp] [] [] pos)) F S₂ := by
  intro A fs env outer Lc h₀ s L Q hA hf hh P k
  refine wpAny_Try_except (x A fs env outer Lc h₀ s L _ _ .none hA hf P (.inl ⟨hh, rfl⟩) fun hr h1 t1 L1 e c P1 a1 x1 _ => ?_)
  refine note_any (s := { s with heap := h1, toks := t1 }) P1.hi hA hf x1 fun h2 x2 => ?_
  refine flight (s := { s with heap := h2, toks := t1 }) x2 fun h3 x3 => ?_
  refine wpAny_handleBy_builtin (X := "IndexError") (T := "IndexError") (b := true) isExc_IE meta_IE self_IE ?_
  have P3 := (P1.kp (x3.kp P1.hi)).loud (some (.ref e))
  refine Name_function_global P3.envk (by unfold Env.kindOf; rw [P3.names]; exact hn) (loadGlobal_builtin (env := env) (by rw [P3.envg]; exact W.g.keeps P3.hi.base) hg (by rw [P3.envb.1]; exact W.b.keeps P3.hi.base) ((W.bb _ (by decide)).trans bb_IE) ?_) (by decide)
  refine ⟨rfl, x3.type, ?_⟩
  rw [if_pos rfl]
  refine flight (s := { s with heap := h3, toks := t1 }) x3 fun h4 x4 => ?_
  have k4 := x4.kp P1.hi
  have P4 := (P1.kp k4).loud (some (.ref e))
  refine anyE (y (A.mark (some (.ref e))) fs env h₀ { s with heap := h4, toks := t1 } L1 _ P4 fun f h5 t5 L5 f5 P5 a5 => ?_)
  exact k f h5 t5 L5 f5 (P5.calm fun _ => hh) ((a1.trans ⟨k4.toS P1.hi.stk, .refl⟩).trans a5)
/-- both ends plain -/
theorem fin_ok {body final : List PySem.Stmt} {f0 : PySem.Stmt} {pos : Pos} (x : Ex W n nm cs S (execs body) .next S₁) (y : Ex W n nm cs S₁ (execs (f0 :: final)) .next S₂) : Ex W n nm cs S (exec (.Try body [] [] (f0 :: final) pos)) .next S₂ := by
  intro A fs env h₀ s L Q P k
  refine wpAny_Try_finally (anyE (x A fs env h₀ s L _ P fun f h1 t1 L1 f1 P1 a1 => ?_))
  cases f1
  refine wpAny_execs_nil ?_
  refine anyE (y A fs env h₀ { s with heap := h1, toks := t1 } L1 _ P1 fun f h2 t2 L2 f2 P2 a2 => ?_)
  cases f2
  exact k .next h2 t2 L2 .next P2 (a1.trans a2)
/-- the final suite raises, after a plain body -/
theorem fin_rz {ow : Bool} {body final : List PySem.Stmt} {f0 : PySem.Stmt} {pos : Pos} (x : Ex W n nm cs S (execs body) .next S₁) (y : RzX W n nm cs S₁ (execs (f0 :: final)) S₂ ow) : RzX W n nm cs S (exec (.Try body [] [] (f0 :: final) pos)) S₂ ow := by
  intro A fs env outer Lc h₀ s L Q E c hA hf P hC hE
  refine wpAny_Try_finally (anyE (x A fs env h₀ s L _ P fun f h1 t1 L1 f1 P1 a1 => ?_))
  cases f1
  refine wpAny_execs_nil ?_
  refine y A fs env outer Lc h₀ { s with heap := h1, toks := t1 } L1 _ _ c hA hf P1 (hC.kpS a1.kp) fun hr h2 t2 L2 e c' P2 a2 x2 o => ?_
  refine note_any (s := { s with heap := h2, toks := t2 }) P2.hi hA hf x2 fun h3 x3 => ?_
  exact back_at (s := { s with heap := h3, toks := t2 }) hf x3 fun h4 x4 => hE hr h4 t2 L2 e c' P2 (a1.trans a2) (.inr x4) o
theorem XAt.free {h : Heap} {l : List Env} {fl : Value} (x : XAt fs l fl .none hr h e) : Free1 h e := by
  obtain ⟨oe, vs, T, oT, ts, h1, h2, h3, h4, h5, _⟩ := x.tr
  exact ⟨oe, vs, h1, h3, h5⟩
/-- both raise -/
theorem rz_rz {body final : List PySem.Stmt} {f0 : PySem.Stmt} {pos : Pos} (hq : W.quiet = true) (x : RzX W n nm cs S (execs body) S₁ true) {ow : Bool} (y : RzX W.loud n nm cs S₁ (execs (f0 :: final)) S₂ ow) : RzX W n nm cs S (exec (.Try body [] [] (f0 :: final) pos)) S₂ false := by
  intro A fs env outer Lc h₀ s L Q E c hA hf P hC hE
  have hh := P.hi.handled hq
  have hc : c = .none := by
    rcases hC with hC | ⟨e1, hC, _⟩
    · exact hC.2
    · rw [hh] at hC; cases hC
  subst hc
  refine wpAny_Try_finally (x A fs env outer Lc h₀ s L _ _ .none hA hf P hC fun hr h1 t1 L1 e c P1 a1 x1 o => ?_)
  have hc := o rfl
  subst hc
  refine note_any (s := { s with heap := h1, toks := t1 }) P1.hi hA hf x1 fun h2 x2 => ?_
  refine ⟨ref_ne_byPass e, ?_⟩
  refine note_at (s := { s with heap := h2, toks := t1 }) hf x2 ?_
  refine flight (s := { s with heap := h2, toks := t1 }) x2 fun h3 x3 => ?_
  have k3 := x3.kp P1.hi
  have P3 := (P1.kp k3).loud (some (.ref e))
  have a3 := a1.trans ⟨k3.toS P1.hi.stk, .refl⟩
  refine y (A.mark (some (.ref e))) fs env outer Lc h₀ { s with heap := h3, toks := t1 } L1 _ _ (.ref e) hA hf P3 (.inr ⟨e, rfl, rfl, x3.free⟩) fun hr4 h4 t4 L4 e2 c4 P4 a4 x4 o4 => ?_
  refine note_any (A := A.mark (some (.ref e))) (W := W.loud) (s := { s with heap := h4, toks := t4 }) P4.hi hA hf x4 fun h5 x5 => ?_
  exact back_at (s := { s with heap := h5, toks := t4 }) hf x5 fun h6 x6 => hE hr4 h6 t4 L4 e2 c4 (P4.calm fun _ => hh) (a3.trans a4) (.inr x6) fun q => nomatch q
end
end
section
open PySem PySem.W PyProof.Rows PySem.Spec PySem.Calls
set_option maxRecDepth 100000
set_option maxHeartbeats 1000000
section
variable {W : Wd} {n : Nat} {A : Around} {fs : List Addr} {nm : List (Str × NameKind)} {cs : List Str} {env : Env} {outer : List Env} {Lc : Addr} {h₀ h h2 hr : Heap} {lo : Nat} {S S' S₁ S₂ : St} {L L' : Lg} {s : Shared} {F : Flo} {E : Value → Shared → Prop} {c : Value} {e : Addr}
/-- Pre without some records that nothing of it speaks of -/
theorem Pre.gone {l : List Addr} (P : Pre W n A fs nm cs env h₀ lo S h L) (hd : ∀ b ∈ l, ∃ o vs, h.get? b = some o ∧ o.data = .fields vs) (hz : ∀ b ∈ l, h₀.get? b = none) (hb : ∀ b ∈ l, W.base.get? b = none) (hl : ∀ b ∈ l, ∀ p ∈ L.led, p.1 ≠ b) : Pre W n A fs nm cs env h₀ lo S (TI.gone h l) L := by
  have dat : ∀ b o, h.get? b = some o → (∀ vs, o.data ≠ .fields vs) → (TI.gone h l).get? b = some o := fun b o e1 e2 => by
    refine (TI.gone_get fun q => ?_).trans e1
    obtain ⟨o', vs, e3, e4⟩ := hd b q
    rw [e1] at e3
    cases e3
    exact e2 vs e4
  have away : ∀ b o, h.get? b = some o → b ∉ l → (TI.gone h l).get? b = some o := fun b o e1 e2 => (TI.gone_get e2).trans e1
  refine ⟨⟨P.hi.handled, P.hi.room, P.hi.units, P.hi.stk.re fun b hb' => ?_, fun b o e1 => away b o (P.hi.base b o e1) fun q => (by rw [hb b q] at e1; cases e1), fun p hp => ⟨away _ _ (P.hi.led p hp).1 fun q => hl _ q p hp rfl, (P.hi.led p hp).2⟩, P.hi.nb⟩, P.names, P.envk, P.envg, P.envb, ⟨fun b o e1 m => away b o (P.keep.same b o e1 m) fun q => (by rw [hz b q] at e1; cases e1), fun b o e1 m => ?_⟩, ?_, P.locn, P.loco, P.bsz, fun x hx => ?_, P.cinj, fun p hp => ?_, ⟨P.owns.len, P.owns.nodup, P.owns.fresh, P.owns.offs, fun k a o e1 e2 => ?_⟩⟩
  · obtain ⟨_, o, es, ep, e1, e2⟩ := P.hi.stk.dict hb'
    exact ⟨o, es, ep, dat b o e1 (fun vs q => by rw [e2] at q; cases q), e2⟩
  · obtain ⟨sl, e2⟩ := P.keep.slot b o e1 m
    exact ⟨sl, away _ _ e2 fun q => by rw [hz b q] at e1; cases e1⟩
  · obtain ⟨m, o, es, ep, e1, e2, r⟩ := P.loc
    exact ⟨m, o, es, ep, dat _ o e1 (fun vs q => by rw [e2] at q; cases q), e2, r⟩
  · obtain ⟨q, o, v, e1, e2, e3, e4⟩ := P.cst x hx
    exact ⟨q, o, v, e1, e2, dat _ o e3 (fun vs z => by rw [e4] at z; cases z), e4⟩
  · obtain ⟨v, V, R⟩ := P.vars p hp
    refine ⟨v, ?_, R⟩
    rcases V with ⟨hk, m, ⟨o, es, ep, e1, e2, r⟩, hv⟩ | ⟨hk, q, o, hc, ho, hd'⟩
    · exact .inl ⟨hk, m, ⟨o, es, ep, dat _ o e1 (fun vs z => by rw [e2] at z; cases z), e2, r⟩, hv⟩
    · exact .inr ⟨hk, q, o, hc, dat _ o ho (fun vs z => by rw [hd'] at z; cases z), hd'⟩
  · obtain ⟨ob, e3, e4⟩ := P.owns.each k a o e1 e2
    refine ⟨ob, dat _ ob e3 (fun vs z => ?_), e4⟩
    cases o with
    | list ds => obtain ⟨us, c, rfl, _⟩ := e4; cases z
theorem gone_fresh {b : Addr} {ob : Obj} {vs : Array Value} (H : HI W n A fs hr L) (k : Kp fs hr h) (hn : (TI.gone hr fs).get? b = none) (e1 : h.get? b = some ob) (e2 : ob.data = .fields vs) : hr.get? b = none ∧ b ∉ fs := by
  have hb : b ∉ fs := fun q => by
    obtain ⟨_, o, es, ep, z, d⟩ := H.stk.dict q
    obtain ⟨sl, z'⟩ := k.up z
    rw [e1] at z'
    cases z'
    rw [e2] at d
    cases d
  exact ⟨(TI.gone_get hb).symm.trans hn, hb⟩
theorem rebase {h₁ : Heap} {fl : Value} {L₀ L₂ : Lg} {h₂ hs : Heap} (hA : A.frames = some (env :: outer)) (P : Pre W n A fs nm cs env h₀ lo S₁ hr L) (a : ArrS hs L₀ hr L) (x : XAt fs (env :: outer) fl c hr h₁ e) (P2 : Pre W n A fs nm cs env h₀ lo S₂ h₂ L₂) (a2 : ArrS h₁ L h₂ L₂) :
    ∃ hr2, Pre W n A fs nm cs env h₀ lo S₂ hr2 L₂ ∧ XAt fs (env :: outer) fl c hr2 h₂ e ∧ ArrS hs L₀ hr2 L₂ := by
  obtain ⟨oe, vs, T, oT, ts, g1, g2, g3, g4, g5, g6, g7, g8, g9, g10⟩ := x.tr
  have k := x.kp P.hi
  obtain ⟨ne, nfe⟩ := gone_fresh P.hi k x.new g1 g3
  obtain ⟨nT, nfT⟩ := gone_fresh P.hi k g6 g8 g9
  have in2 : ∀ b ∈ [e, T], hr.get? b = none ∧ ∃ o vs, h₁.get? b = some o ∧ o.data = .fields vs := fun b hb => by
    rcases List.mem_cons.mp hb with rfl | hb
    · exact ⟨ne, oe, vs, g1, g3⟩
    · rw [List.mem_singleton.mp hb]; exact ⟨nT, oT, ts, g8, g9⟩
  have e2 := a2.kp.1 _ _ _ g1 g3
  have T2 := a2.kp.1 _ _ _ g8 g9
  have Pr : Pre W n A fs nm cs env h₀ lo S₂ (TI.gone h₂ [e, T]) L₂ := by
    refine P2.gone (fun b hb => ?_) (fun b hb => P.keep.none (in2 b hb).1) (fun b hb => P.hi.fresh (in2 b hb).1) (fun b hb p hp q => ?_)
    · obtain ⟨_, o, us, z1, z2⟩ := in2 b hb
      exact ⟨o, us, a2.kp.1 _ _ _ z1 z2, z2⟩
    · obtain ⟨z0, o, us, z1, z2⟩ := in2 b hb
      obtain ⟨add, ow, hL, hadd⟩ := a2.more
      rw [hL] at hp
      rcases List.mem_append.mp hp with hp | hp
      · have := hadd p hp
        rw [q, z1] at this
        cases this
      · have := (P.hi.led p hp).1
        rw [q, z0] at this
        cases this
  have me : e ∈ [e, T] := .head _
  have mT : T ∈ [e, T] := .tail _ (.head _)
  refine ⟨_, Pr, ⟨fun b o z => (TI.gone_some (TI.gone_some z).2).2, TI.none_of (fun b o z => (TI.gone_some z).2) (TI.gone_none me), (frames_hr Pr.hi hA).of_keeps fun b o z _ => ⟨o, (TI.gone_some z).2, rfl⟩, ?_, fun b o z _ => ⟨o.slots, (TI.gone_some z).2⟩⟩, ⟨fun b o us z d => ?_, fun b z => ?_⟩, (a.more.trans (fun b z => a.kp.2 b (k.none z)) a2.more)⟩
  · exact ⟨oe, vs, T, oT, ts, e2, g2, g3, g4, g5, TI.none_of (fun b o z => (TI.gone_some z).2) (TI.gone_none mT), g7, T2, g9, g10⟩
  · have z1 := a.kp.1 _ _ _ z d
    have nb : b ∉ [e, T] := fun q => by rw [(in2 b q).1] at z1; cases z1
    have nfb : b ∉ fs := off_data P.hi.stk z1 (by unfold dataOk; rw [d])
    exact (TI.gone_get nb).trans (a2.kp.1 _ _ _ (k.same _ _ z1 nfb) d)
  · by_cases q : b ∈ [e, T]
    · exact a.kp.2 b (in2 b q).1
    · exact a.kp.2 b (k.none (a2.kp.2 b ((TI.gone_get q).symm.trans z)))
/-- the body raises, the final suite does not -/
theorem rz_ok {body final : List PySem.Stmt} {f0 : PySem.Stmt} {pos : Pos} {ow : Bool} (x : RzX W n nm cs S (execs body) S₁ ow) (y : Ex W.loud n nm cs S₁ (execs (f0 :: final)) .next S₂) : RzX W n nm cs S (exec (.Try body [] [] (f0 :: final) pos)) S₂ ow := by
  intro A fs env outer Lc h₀ s L Q E c hA hf P hC hE
  refine wpAny_Try_finally (x A fs env outer Lc h₀ s L _ _ c hA hf P hC fun hr h1 t1 L1 e c' P1 a1 x1 o => ?_)
  refine note_any (s := { s with heap := h1, toks := t1 }) P1.hi hA hf x1 fun h2 x2 => ?_
  refine ⟨ref_ne_byPass e, ?_⟩
  refine note_at (s := { s with heap := h2, toks := t1 }) hf x2 ?_
  refine flight (s := { s with heap := h2, toks := t1 }) x2 fun h3 x3 => ?_
  have k3 := x3.kp P1.hi
  have P3 := (P1.kp k3).loud (some (.ref e))
  refine anyE (y (A.mark (some (.ref e))) fs env h₀ { s with heap := h3, toks := t1 } L1 _ P3 fun f h4 t4 L4 f4 P4 a4 => ?_)
  cases f4
  obtain ⟨hr4, P5, x5, a5⟩ := rebase hA P1 a1 x3 (P4.calm P1.hi.handled) a4
  exact pass_at (s := { s with heap := h4, toks := t4 }) hf x5 fun h6 x6 => hE hr4 h6 t4 L4 e c' P5 a5 (.inr x6) o
end
end
section
open PySem PySem.W PyProof.Rows PySem.Spec PySem.Calls
set_option maxRecDepth 100000
set_option maxHeartbeats 1000000
def retL (S : St) : List D → Option (List D)
  | [] => some []
  | d :: r => match retP S d, retL S r with
    | some x, some y => some (x :: y)
    | _, _ => none
/-- what a def gives back: also a tuple of own lists -/
def retT (S : St) : D → Option D
  | .tup l => match retL S l with
    | some l' => some (.tup l')
    | none => none
  | d => retP S d
section
variable {W : Wd} {n : Nat} {A : Around} {fs : List Addr} {nm : List (Str × NameKind)} {cs : List Str} {env : Env} {h₀ h : Heap} {lo : Nat} {S : St} {L L' : Lg}
theorem retL_ok (P : Pre W n A fs nm cs env h₀ lo S h L) (h1 : ∀ p ∈ L.led, p ∈ L'.led) (h2 : ∀ p ∈ ownLed L h, p ∈ L'.led) : ∀ {vs : List Value} {l l' : List D}, Reps L vs l → retL S l = some l' → Reps L' vs l' := by
  intro vs
  induction vs with
  | nil => intro l l' R e; cases R; cases e; exact .nil
  | cons v vs ih =>
    intro l l' R e
    cases R with
    | cons R1 R2 =>
      unfold retL at e
      split at e
      · rename_i x y q1 q2
        cases e
        exact .cons (retP_ok P h1 h2 R1 q1) (ih R2 q2)
      · cases e
theorem retT_ok (P : Pre W n A fs nm cs env h₀ lo S h L) (h1 : ∀ p ∈ L.led, p ∈ L'.led) (h2 : ∀ p ∈ ownLed L h, p ∈ L'.led) {v : Value} {d d' : D} (R : Rep L v d) (e : retT S d = some d') : Rep L' v d' := by
  unfold retT at e
  split at e
  · split at e
    · rename_i l' q
      cases e
      cases R with
      | tup m r => exact .tup (h1 _ m) (retL_ok P h1 h2 r q)
    · cases e
  · exact retP_ok P h1 h2 R e
end
section
variable {W : Wd} {n : Nat} {A : Around} {fs : List Addr} {h : Heap} {L : Lg} {s : Shared}
theorem fn_okT [hqt : Quiet W] {f : Addr} {o : Obj} {fd : FuncData} {body : List PySem.Stmt} {ds : List D} {d d' : D} {ps : List Str} {S' : St} {cs : List Str} (ho : W.K.lookup f = some o) (hd : o.data = .func fd) (hcd : codeIn W.K fd.code fd.qualname = true) (hbody : fd.body = .stmts body)
    (hbind : ∀ vs : List Value, vs.length = ps.length → bindArgs fd ⟨vs, []⟩ = pure (ps.zip vs)) (hclo : fd.closure = []) (hg : fd.globals = mainGlobals) (hb : fd.builtins = builtinsNs) (hco : fd.scope.isCoroutine = false) (hgen : fd.scope.isGenerator = false) (hk : fd.scope.kind = .function)
    (hps : ps.all (fun x => fd.scope.names.lookup x == some .local || fd.scope.names.lookup x == some .cell) = true) (hnd : ps.Nodup) (hcs : ∀ x ∈ cs, fd.scope.names.lookup x = some .cell) (hlen : ds.length = ps.length) (hpure : ds.all (pureP 6) = true)
    (run : ExT W n fd.scope.names cs ⟨ps.zip ds, []⟩ (execs body) (.ret d) S') (hret : retT S' d = some d') : OpN W (n + 1) (callT (.ref f)) ds d' :=
  fn_core (bl := []) (fun _ hp => nomatch hp) ho hd hcd hbody hbind hclo hg hb hco hgen hk hps hnd hcs hlen hpure (fun A fs env outer Lc h₀ s L Q e1 e2 _ P k => run A fs env outer Lc h₀ s L Q e1 e2 (P.hi.handled hqt.q) P k) fun H P R m hn k => out_own H P rfl m hn k fun _ h1 h2 => retT_ok P h1 h2 R hret
end
end
section
open PySem PySem.W PyProof.Rows PySem.Spec PySem.Calls
set_option maxRecDepth 100000
set_option maxHeartbeats 1000000
def Wk (S1 S2 : St) : Prop := (∀ p ∈ S2.vars, p ∈ S1.vars) ∧ S2.own = S1.own
section
variable {W : Wd} {n : Nat} {A : Around} {fs : List Addr} {nm : List (Str × NameKind)} {cs : List Str} {env : Env} {outer : List Env} {Lc : Addr} {h₀ h : Heap} {lo : Nat} {S S' S₁ S₂ : St} {L L' : Lg} {s : Shared} {F : Flo}
theorem ext_cons {st : PySem.Stmt} {rest : List PySem.Stmt} (x : ExT W n nm cs S (exec st) .next S₁) (y : ExT W n nm cs S₁ (execs rest) F S') : ExT W n nm cs S (execs (st :: rest)) F S' := by
  intro A fs env outer Lc h₀ s L Q hA hf hh P k
  refine wpAny_execs_cons (x A fs env outer Lc h₀ s L _ hA hf hh P fun f h1 t1 L1 f1 P1 a1 => ?_)
  cases f1
  exact y A fs env outer Lc h₀ { s with heap := h1, toks := t1 } L1 _ hA hf hh P1 fun f h2 t2 L2 f2 P2 a2 => k f h2 t2 L2 f2 P2 (a1.trans a2)
theorem ext_weak {t : Env → Sem Flow} (x : ExT W n nm cs S t F S₁) (w : Wk S₁ S₂) : ExT W n nm cs S t F S₂ := by
  intro A fs env outer Lc h₀ s L Q hA hf hh P k
  exact x A fs env outer Lc h₀ s L Q hA hf hh P fun f h1 t1 L1 f1 P1 a1 => k f h1 t1 L1 f1 (P1.weak w.1 w.2) a1
theorem ext_start {t : Env → Sem Flow} (w : Wk S S₁) (x : ExT W n nm cs S₁ t F S') : ExT W n nm cs S t F S' := by
  intro A fs env outer Lc h₀ s L Q hA hf hh P k
  exact x A fs env outer Lc h₀ s L Q hA hf hh (P.weak w.1 w.2) k
theorem ext_one {st : PySem.Stmt} (x : ExT W n nm cs S (exec st) F S') : ExT W n nm cs S (execs [st]) F S' := by
  intro A fs env outer Lc h₀ s L Q hA hf hh P k
  refine wpAny_execs_cons (x A fs env outer Lc h₀ s L _ hA hf hh P fun f h1 t1 L1 f1 P1 a1 => ?_)
  cases f1 with
  | next => exact wpAny_execs_nil (k .next h1 t1 L1 .next P1 a1)
  | brk => exact k .brk h1 t1 L1 .brk P1 a1
  | cont => exact k .cont h1 t1 L1 .cont P1 a1
  | ret r => exact k (.ret _) h1 t1 L1 (.ret r) P1 a1
/-- while True, left by break -/
theorem ext_loop {test : PySem.Expr} {body orelse : List PySem.Stmt} {pos : Pos} (ht : ∀ S, TsU W n nm cs S test true) (I : Nat → St → Prop)
    (turn : ∀ m S, I m S → (∃ m' S1, ExT W n nm cs S (execs body) .next S1 ∧ m' < m ∧ I m' S1) ∨ ExT W n nm cs S (execs body) .brk S') (m : Nat) (h : I m S) : ExT W n nm cs S (exec (.While test body orelse pos)) .next S' := by
  intro A fs env outer Lc h₀ s L Q hA hf hh P k
  refine wpAny_While ?_
  refine codeAny_whileLoop (fun m s' => ∃ h3 t3 L3 S3, s' = { s with heap := h3, toks := t3 } ∧ I m S3 ∧ Pre W n A fs nm cs env h₀ 0 S3 h3 L3 ∧ ArrS s.heap L h3 L3) ?_ m
    ⟨s.heap, s.toks, L, S, rfl, h, P, .refl _ _⟩
  rintro m s' ⟨h3, t3, L3, S3, rfl, hI, P3, as3⟩
  refine anyE (ht S3 A fs env h₀ 0 { s with heap := h3, toks := t3 } L3 _ P3 fun h4 t4 L4 a4 => ?_)
  have P4 := P3.arr a4
  have as4 := as3.trans (a4.toS P3.hi)
  rw [if_pos rfl]
  rcases turn m S3 hI with ⟨m', S1, x, hm, hI'⟩ | x
  · refine anyE (x A fs env outer Lc h₀ { s with heap := h4, toks := t4 } L4 _ hA hf hh P4 fun f h5 t5 L5 f5 P5 a5 => ?_)
    cases f5
    exact ⟨m', hm, h5, t5, L5, S1, rfl, hI', P5, as4.trans a5⟩
  · refine anyE (x A fs env outer Lc h₀ { s with heap := h4, toks := t4 } L4 _ hA hf hh P4 fun f h5 t5 L5 f5 P5 a5 => ?_)
    cases f5
    exact k .next h5 t5 L5 .next P5 (as4.trans a5)
end
end
section
structure MI (xs ys : List Int) (i j : Nat) (m u : List Int) : Prop where
  hi : i ≤ xs.length
  hj : j ≤ ys.length
  mi : m = (xs.take i).filter (fun x => !ys.contains x)
  ui : u = (ys.take j).filter (fun y => !xs.contains y)
  xy : ∀ x ∈ xs.take i, ∀ y ∈ ys.drop j, x < y
  yx : ∀ y ∈ ys.take j, ∀ x ∈ xs.drop i, y < x
theorem MI.start (xs ys : List Int) : MI xs ys 0 0 [] [] := ⟨Nat.zero_le _, Nat.zero_le _, rfl, rfl, (fun x h => nomatch h), (fun x h => nomatch h)⟩
theorem take_snoc {l : List Int} {i : Nat} (h : i < l.length) : l.take (i + 1) = l.take i ++ [l[i]] := by
  rw [List.take_add_one, List.getElem?_eq_getElem h]; rfl
theorem drop_lt {l : List Int} (hl : l.Pairwise (· < ·)) {i : Nat} (h : i < l.length) : ∀ y ∈ l.drop (i + 1), l[i] < y := by
  intro y hy
  have hs : (l.drop i).Pairwise (· < ·) := hl.sublist (List.drop_sublist i l)
  rw [List.drop_eq_getElem_cons h] at hs
  exact (List.pairwise_cons.mp hs).1 y hy
theorem drop_sub {l : List Int} {i : Nat} {y : Int} (hy : y ∈ l.drop (i + 1)) : y ∈ l.drop i := by
  by_cases h : i < l.length
  · rw [List.drop_eq_getElem_cons h]; exact List.mem_cons_of_mem _ hy
  · rw [List.drop_eq_nil_of_le (by omega)] at hy; cases hy
theorem head_mem {l : List Int} {i : Nat} (h : i < l.length) : l[i] ∈ l.drop i := by
  rw [List.drop_eq_getElem_cons h]; exact .head _
theorem drop_cases {l : List Int} {i : Nat} {y : Int} (h : i < l.length) (hy : y ∈ l.drop i) : y = l[i] ∨ y ∈ l.drop (i + 1) := by
  rw [List.drop_eq_getElem_cons h] at hy
  exact List.mem_cons.mp hy
variable {xs ys : List Int} {i j : Nat} {m u : List Int}
theorem mem_split {l : List Int} (j : Nat) {y : Int} (h : y ∈ l) : y ∈ l.take j ∨ y ∈ l.drop j := by
  rw [← List.take_append_drop j l] at h
  exact List.mem_append.mp h
theorem MI.left (M : MI xs ys i j m u) (hx : xs.Pairwise (· < ·)) (hy : ys.Pairwise (· < ·)) (h1 : i < xs.length) (hlt : ∀ y ∈ ys.drop j, xs[i] < y) : MI xs ys (i + 1) j (m ++ [xs[i]]) u := by
  have nin : xs[i] ∉ ys := fun q => by
    rcases mem_split j q with q | q
    · exact Int.lt_irrefl _ (M.yx _ q _ (head_mem h1))
    · exact Int.lt_irrefl _ (hlt _ q)
  refine ⟨h1, M.hj, ?_, M.ui, fun x hx' y hy' => ?_, fun y hy' x hx' => M.yx y hy' x (drop_sub hx')⟩
  · rw [take_snoc h1, List.filter_append, ← M.mi]
    simp [nin]
  · rw [take_snoc h1] at hx'
    rcases List.mem_append.mp hx' with hx' | hx'
    · exact M.xy x hx' y hy'
    · rw [List.mem_singleton.mp hx']
      exact hlt y hy'
theorem MI.swap (M : MI xs ys i j m u) : MI ys xs j i u m := ⟨M.hj, M.hi, M.ui, M.mi, M.yx, M.xy⟩
theorem all_lt {l : List Int} (hl : l.Pairwise (· < ·)) {j : Nat} (h : j < l.length) {x : Int} (hx : x < l[j]) : ∀ y ∈ l.drop j, x < y := fun y hy => by
  rcases drop_cases h hy with e | e
  · rw [e]; exact hx
  · exact Int.lt_trans hx (drop_lt hl h y e)
theorem MI.both (M : MI xs ys i j m u) (hx : xs.Pairwise (· < ·)) (hy : ys.Pairwise (· < ·)) (h1 : i < xs.length) (h2 : j < ys.length) (he : xs[i] = ys[j]) : MI xs ys (i + 1) (j + 1) m u := by
  have i1 : xs[i] ∈ ys := by rw [he]; exact List.getElem_mem h2
  have i2 : ys[j] ∈ xs := by rw [← he]; exact List.getElem_mem h1
  refine ⟨h1, h2, ?_, ?_, fun x hx' y hy' => ?_, fun y hy' x hx' => ?_⟩
  · rw [take_snoc h1, List.filter_append, ← M.mi]; simp [i1]
  · rw [take_snoc h2, List.filter_append, ← M.ui]; simp [i2]
  · rw [take_snoc h1] at hx'
    rcases List.mem_append.mp hx' with hx' | hx'
    · exact M.xy x hx' y (drop_sub hy')
    · rw [List.mem_singleton.mp hx', he]; exact drop_lt hy h2 y hy'
  · rw [take_snoc h2] at hy'
    rcases List.mem_append.mp hy' with hy' | hy'
    · exact M.yx y hy' x (drop_sub hx')
    · rw [List.mem_singleton.mp hy', ← he]; exact drop_lt hx h1 x hx'
theorem MI.fin (M : MI xs ys i j m u) (h : xs.length ≤ i ∨ ys.length ≤ j) : m ++ xs.drop i = xs.filter (fun x => !ys.contains x) := by
  have e : (xs.drop i).filter (fun x => !ys.contains x) = xs.drop i := by
    rw [List.filter_eq_self]
    intro x hx
    rcases h with h | h
    · rw [List.drop_eq_nil_of_le h] at hx; cases hx
    · have nin : x ∉ ys := fun q => Int.lt_irrefl _ (M.yx x (by rw [List.take_of_length_le h]; exact q) x hx)
      simp [nin]
  rw [M.mi]
  conv => rhs; rw [← List.take_append_drop i xs, List.filter_append, e]
end
section
open PySem PySem.W PyProof.Rows PySem.Spec PySem.Calls
set_option maxRecDepth 100000
set_option maxHeartbeats 1000000
theorem slG_plain {α : Type} (l : List α) (lo hi : Option Int) : slG l lo hi = (l.drop (lo.elim 0 (clipAt l.length))).take (hi.elim l.length (clipAt l.length) - lo.elim 0 (clipAt l.length)) := by
  unfold slG
  rw [sliceBounds_plain]
  simp only [sliceRange_one]
  have := pick_run l.toArray (lo.elim 0 (clipAt l.length)) (hi.elim l.length (clipAt l.length) - lo.elim 0 (clipAt l.length))
  simpa using this
theorem slG_from {α : Type} (l : List α) (a : Nat) : slG l (some (a : Int)) none = l.drop a := by
  rw [slG_plain]
  simp only [Option.elim, clipAt_nat]
  rcases Nat.le_total a l.length with h | h
  · rw [Nat.min_eq_left h, List.take_of_length_le (by simp)]
  · rw [Nat.min_eq_right h, List.drop_of_length_le (Nat.le_refl _), List.drop_of_length_le h]; simp
section
variable {W : Wd} {n : Nat} {nm : List (Str × NameKind)} {cs : List Str} {S S' S₁ S₂ : St}
theorem seqIndex_nat {i k : Nat} (h : i < k) : seqIndex? (i : Int) k = some i := by
  unfold seqIndex?
  dsimp only
  split
  · omega
  · split
    · rfl
    · rename_i h2
      exfalso
      apply h2
      rw [Bool.and_eq_true, decide_eq_true_eq, decide_eq_true_eq]
      omega
theorem item_at {xs : List Int} {i : Nat} (hi : i < xs.length) (lx : xs.length ≤ 100000) : itemP [.list (xs.map .int), .int (i : Int)] = some (.int xs[i]) := by
  have hf : fits (i : Int) = true := by unfold fits; rw [Bool.and_eq_true, decide_eq_true_eq, decide_eq_true_eq]; omega
  refine i_at hf (j := i) (seqIndex_nat (by rw [List.length_map]; exact hi)) ?_
  rw [List.getElem?_map, List.getElem?_eq_getElem hi]; rfl
theorem ev_at {x y : Str} {p q pos : Pos} {xs : List Int} {i : Nat} (hx : getL x S.vars = some (.list (xs.map .int))) (hy : getL y S.vars = some (.int (i : Int))) (hi : i < xs.length) (lx : xs.length ≤ 100000)
    (x1 : (x == ("__debug__" : Str)) = false) (x2 : (x == ("__classdict__" : Str)) = false) (y1 : (y == ("__debug__" : Str)) = false) (y2 : (y == ("__classdict__" : Str)) = false) : EvD W n nm cs S (.Subscript (.Name x p) (.Name y q) pos) (.int xs[i]) :=
  ev_item (ev_var hx x1 x2) (ev_var hy y1 y2) rfl (.inr (item_at hi lx))
theorem rz_at {x y : Str} {p q pos : Pos} {xs : List Int} {i : Nat} (hx : getL x S.vars = some (.list (xs.map .int))) (hy : getL y S.vars = some (.int (i : Int))) (hi : xs.length ≤ i) (lx : i ≤ 100000)
    (x1 : (x == ("__debug__" : Str)) = false) (x2 : (x == ("__classdict__" : Str)) = false) (y1 : (y == ("__debug__" : Str)) = false) (y2 : (y == ("__classdict__" : Str)) = false) : RzE W n nm cs S (.Subscript (.Name x p) (.Name y q) pos) :=
  rz_item (ev_var hx x1 x2) (ev_var hy y1 y2) rfl (by rw [List.length_map]; omega) (by omega)
theorem ex_while0 {test : PySem.Expr} {body : List PySem.Stmt} {pos : Pos} (t : TsU W n nm cs S test false) : Ex W n nm cs S (exec (.While test body [] pos)) .next S := by
  intro A fs env h₀ s L Q P q
  refine wpAny_While ?_
  refine codeAny_whileLoop (fun m s' => s' = s) ?_ 0 rfl
  rintro m s' rfl
  refine anyE (t A fs env h₀ 0 s' L _ P fun h4 t4 L4 a4 => ?_)
  exact wpAny_execs_nil (q .next h4 t4 L4 .next (P.arr a4) (a4.toS P.hi))
theorem ts_at {x y z : Str} {p q pos c r : Pos} {xs : List Int} {i : Nat} {v : Int} (hx : getL x S.vars = some (.list (xs.map .int))) (hy : getL y S.vars = some (.int (i : Int))) (hz : getL z S.vars = some (.int v)) (hi : i < xs.length) (lx : xs.length ≤ 100000)
    (x1 : (x == ("__debug__" : Str)) = false) (x2 : (x == ("__classdict__" : Str)) = false) (y1 : (y == ("__debug__" : Str)) = false) (y2 : (y == ("__classdict__" : Str)) = false) (z1 : (z == ("__debug__" : Str)) = false) (z2 : (z == ("__classdict__" : Str)) = false) :
    TsU W n nm cs S (.Compare (.Subscript (.Name x p) (.Name y q) pos) [.Eq] [.Name z r] c) (xs[i] == v) :=
  ts_cmp (ev_at hx hy hi lx x1 x2 y1 y2) (ev_var hz z1 z2) (cmp_ok _) (b := xs[i] == v) rfl (by simp [behindInMarks])
theorem ts_ints {op : CmpOp} {x y : Str} {p q pos : Pos} {a b : Int} {c : Bool} (hx : getL x S.vars = some (.int a)) (hy : getL y S.vars = some (.int b)) (hc : cmpP op [.int a, .int b] = some (.bool c))
    (x1 : (x == ("__debug__" : Str)) = false) (x2 : (x == ("__classdict__" : Str)) = false) (y1 : (y == ("__debug__" : Str)) = false) (y2 : (y == ("__classdict__" : Str)) = false) : TsU W n nm cs S (.Compare (.Name x p) [op] [.Name y q] pos) c :=
  ts_cmp (ev_var hx x1 x2) (ev_var hy y1 y2) (cmp_ok _) hc (by unfold behindInMarks; cases op <;> rfl)
end
end
section
open PySem PySem.W PyProof.Rows PySem.Spec PySem.Calls
set_option maxRecDepth 100000
set_option maxHeartbeats 1000000
def RzQ (W : Wd) (n : Nat) (nm : List (Str × NameKind)) (cs : List Str) (S : St) (ss : List PySem.Stmt) (ow : Bool) (T : St → Prop) : Prop := ∃ S', RzX W n nm cs S (execs ss) S' ow ∧ T S'
section
variable {W : Wd} {n : Nat} {nm : List (Str × NameKind)} {cs : List Str} {S S' S₁ S₂ : St} {F : Flo} {T : St → Prop} {ow : Bool}
theorem q_fin {body final : List PySem.Stmt} {f0 : PySem.Stmt} {pos : Pos} (x : ExQ W n nm cs S body .next fun S1 => ExQ W n nm cs S1 (f0 :: final) .next T) : ExQ W n nm cs S [.Try body [] [] (f0 :: final) pos] .next T := by
  obtain ⟨S1, x, S2, y, h⟩ := x
  exact ⟨S2, ex_cons (fin_ok x y) ex_nil, h⟩
theorem r_tail {st : PySem.Stmt} {rest : List PySem.Stmt} (x : Ex W n nm cs S (exec st) .next S₁) (y : RzQ W n nm cs S₁ rest ow T) : RzQ W n nm cs S (st :: rest) ow T := by
  obtain ⟨S', y, h⟩ := y
  exact ⟨S', rz_tail x y, h⟩
theorem r_own {t : Env → Sem Flow} (x : RzX W n nm cs S t S' true) : RzX W n nm cs S t S' ow := by
  cases ow with
  | true => exact x
  | false => exact x.weak
theorem r_assign {x : Str} {p pos : Pos} {value : PySem.Expr} {rest : List PySem.Stmt} (hc : isComp value = false) (v : RzE W n nm cs S value) (h : T S) : RzQ W n nm cs S (.Assign [.Name x p] value pos :: rest) ow T := ⟨S, rz_head (r_own (rz_assign hc v)), h⟩
theorem r_while {test : PySem.Expr} {body orelse rest : List PySem.Stmt} {pos : Pos} (t : RzT W n nm cs S test) (h : T S) : RzQ W n nm cs S (.While test body orelse pos :: rest) ow T := ⟨S, rz_head (r_own (rz_while t)), h⟩
theorem r_if {test : PySem.Expr} {body orelse rest : List PySem.Stmt} {pos : Pos} {b : Bool} (t : TsU W n nm cs S test b) (y : RzQ W n nm cs S (if b then body else orelse) ow T) : RzQ W n nm cs S (.If test body orelse pos :: rest) ow T := by
  obtain ⟨S', y, h⟩ := y
  exact ⟨S', rz_head (rz_if t y), h⟩
theorem r_fin_rz {body final rest : List PySem.Stmt} {f0 : PySem.Stmt} {pos : Pos} (x : ExQ W n nm cs S body .next fun S1 => RzQ W n nm cs S1 (f0 :: final) ow T) : RzQ W n nm cs S (.Try body [] [] (f0 :: final) pos :: rest) ow T := by
  obtain ⟨S1, x, S2, y, h⟩ := x
  exact ⟨S2, rz_head (fin_rz x y), h⟩
theorem r_rz_ok {body final rest : List PySem.Stmt} {f0 : PySem.Stmt} {pos : Pos} (x : RzQ W n nm cs S body ow fun S1 => ExQ W.loud n nm cs S1 (f0 :: final) .next T) : RzQ W n nm cs S (.Try body [] [] (f0 :: final) pos :: rest) ow T := by
  obtain ⟨S1, x, S2, y, h⟩ := x
  exact ⟨S2, rz_head (rz_ok x y), h⟩
theorem r_rz_rz {body final rest : List PySem.Stmt} {f0 : PySem.Stmt} {pos : Pos} (hq : W.quiet = true) (x : RzQ W n nm cs S body true fun S1 => RzQ W.loud n nm cs S1 (f0 :: final) true T) : RzQ W n nm cs S (.Try body [] [] (f0 :: final) pos :: rest) false T := by
  obtain ⟨S1, x, S2, y, h⟩ := x
  exact ⟨S2, rz_head (rz_rz hq x y), h⟩
theorem t_next {body : List PySem.Stmt} {h1 : ExceptHandler} {hs : List ExceptHandler} {pos : Pos} (x : ExQ W n nm cs S body .next fun S1 => Wk S1 S') : ExT W n nm cs S (execs [.Try body (h1 :: hs) [] [] pos]) .next S' := by
  obtain ⟨S1, x, h⟩ := x
  exact ext_weak (ext_one (try_ok (Ex.toT x))) h
theorem t_brk {body suite : List PySem.Stmt} {b0 : PySem.Stmt} {p hp pos : Pos} (hn : nm.lookup ("IndexError" : Str) = some .globalImplicit) (hg : W.mg "IndexError" = none) (x : RzQ W n nm cs S body false fun S1 => ExQ W.loud n nm cs S1 (b0 :: suite) .brk fun S2 => Wk S2 S') :
    ExT W n nm cs S (execs [.Try body [.ExceptHandler (some (.Name "IndexError" p)) none (b0 :: suite) hp] [] [] pos]) .brk S' := by
  obtain ⟨S1, x, S2, y, h⟩ := x
  exact ext_weak (ext_one (try_exc hn hg x y)) h
end
end
section
open PySem PySem.W PyProof.Rows PySem.Spec PySem.Calls
set_option maxRecDepth 100000
set_option maxHeartbeats 4000000
theorem ev_from {W : Wd} {n : Nat} {nm : List (Str × NameKind)} {cs : List Str} {S : St} {x y : Str} {p q r pos : Pos} {xs : List Int} {i : Nat} (hx : getL x S.vars = some (.list (xs.map .int))) (hy : getL y S.vars = some (.int (i : Int))) (lx : xs.length ≤ 1000)
    (x1 : (x == ("__debug__" : Str)) = false) (x2 : (x == ("__classdict__" : Str)) = false) (y1 : (y == ("__debug__" : Str)) = false) (y2 : (y == ("__classdict__" : Str)) = false) : EvD W n nm cs S (.Subscript (.Name x p) (.Slice (some (.Name y q)) none none r) pos) (.list ((xs.drop i).map .int)) := by
  have h := ev_slice (W := W) (n := n) (nm := nm) (cs := cs) (S := S) (l := some (.Name y q)) (u := none) (i := some (i : Int)) (j := none) (p := r) (pos := pos) (ev_var (pos := p) hx x1 x2) (ev_var (pos := q) hy y1 y2) trivial (by rw [List.length_map]; exact lx)
  rw [slG_from, ← List.map_drop] at h
  exact h
def cn (xs ys : List Int) (i j : Nat) : List (Str × D) := [("i", D.int i), ("j", D.int j), ("expected", .list (xs.map .int)), ("actual", .list (ys.map .int)), ("missing", .own 0), ("unexpected", .own 1)]
theorem wk_cn {xs ys : List Int} {i j : Nat} {o : List Own} {S1 : St} (h1 : getL "i" S1.vars = some (.int i)) (h2 : getL "j" S1.vars = some (.int j)) (h3 : getL "expected" S1.vars = some (.list (xs.map .int))) (h4 : getL "actual" S1.vars = some (.list (ys.map .int))) (h5 : getL "missing" S1.vars = some (.own 0)) (h6 : getL "unexpected" S1.vars = some (.own 1)) (ho : o = S1.own) : Wk S1 ⟨cn xs ys i j, o⟩ := by
  refine ⟨fun p hp => ?_, ho⟩
  have hp : p ∈ cn xs ys i j := hp
  unfold cn at hp
  simp only [List.mem_cons, List.not_mem_nil, or_false] at hp
  rcases hp with rfl | rfl | rfl | rfl | rfl | rfl <;> (refine getL_mem ?_; assumption)
theorem wk_fin {xs ys : List Int} {o : List Own} {S1 : St} (h3 : getL "expected" S1.vars = some (.list (xs.map .int))) (h4 : getL "actual" S1.vars = some (.list (ys.map .int))) (h5 : getL "missing" S1.vars = some (.own 0)) (h6 : getL "unexpected" S1.vars = some (.own 1)) (ho : o = S1.own) : Wk S1 ⟨[("expected", .list (xs.map .int)), ("actual", .list (ys.map .int)), ("missing", .own 0), ("unexpected", .own 1)], o⟩ := by
  refine ⟨fun p hp => ?_, ho⟩
  simp only [List.mem_cons, List.not_mem_nil, or_false] at hp
  rcases hp with rfl | rfl | rfl | rfl <;> (refine getL_mem ?_; assumption)
theorem lt_ok {a b : Int} (h : a < b) : cmpP .Lt [.int a, .int b] = some (.bool true) := by
  show some (D.bool (decide (a < b))) = _
  rw [decide_eq_true h]
theorem lt_no {a b : Int} (h : ¬ a < b) : cmpP .Lt [.int a, .int b] = some (.bool false) := by
  show some (D.bool (decide (a < b))) = _
  rw [decide_eq_false h]
theorem gt_ok {a b : Int} (h : b < a) : cmpP .Gt [.int a, .int b] = some (.bool true) := by
  show some (D.bool (decide (a > b))) = _
  rw [decide_eq_true h]
theorem gt_no {a b : Int} (h : ¬ b < a) : cmpP .Gt [.int a, .int b] = some (.bool false) := by
  show some (D.bool (decide (a > b))) = _
  rw [decide_eq_false h]
theorem ts_ne {W : Wd} {n : Nat} {nm : List (Str × NameKind)} {cs : List Str} {S : St} {x y z : Str} {p q pos c r : Pos} {xs : List Int} {i : Nat} {v : Int} (hx : getL x S.vars = some (.list (xs.map .int))) (hy : getL y S.vars = some (.int (i : Int))) (hz : getL z S.vars = some (.int v)) (hi : i < xs.length) (lx : xs.length ≤ 100000) (hne : v < xs[i])
    (x1 : (x == ("__debug__" : Str)) = false) (x2 : (x == ("__classdict__" : Str)) = false) (y1 : (y == ("__debug__" : Str)) = false) (y2 : (y == ("__classdict__" : Str)) = false) (z1 : (z == ("__debug__" : Str)) = false) (z2 : (z == ("__classdict__" : Str)) = false) :
    TsU W n nm cs S (.Compare (.Subscript (.Name x p) (.Name y q) pos) [.Eq] [.Name z r] c) false := by
  have h := ts_at (W := W) (n := n) (nm := nm) (cs := cs) (S := S) (p := p) (q := q) (pos := pos) (c := c) (r := r) hx hy hz hi lx x1 x2 y1 y2 z1 z2
  rw [show (xs[i] == v) = false by rw [beq_eq_false_iff_ne]; omega] at h
  exact h
theorem up1 {xs : List Int} (hx : xs.Pairwise (· < ·)) {i : Nat} (h : i + 1 < xs.length) : xs[i] < xs[i + 1] := List.pairwise_iff_getElem.mp hx i (i + 1) (by omega) h (Nat.lt_succ_self _)

theorem sld (W : Wd) [hqq : Quiet W] (hK : W.K = hd01.heap_1 W.w.params) (hg : W.mg "IndexError" = none) (n : Nat) (xs ys ms us : List Int) (hx : xs.Pairwise (· < ·)) (hy : ys.Pairwise (· < ·)) (lx : xs.length ≤ 1000) (ly : ys.length ≤ 1000) (hms : ms = xs.filter (fun x => !ys.contains x)) (hus : us = ys.filter (fun y => !xs.contains y)) : OpN W (n + 1) (callT (.ref 112)) [.list (xs.map .int), .list (ys.map .int)] (.tup [.list (ms.map .int), .list (us.map .int)]) := by
  have lx' : xs.length ≤ 100000 := by omega
  have ly' : ys.length ≤ 100000 := by omega
  refine fn_okT (S' := ⟨[("expected", .list (xs.map .int)), ("actual", .list (ys.map .int)), ("missing", .own 0), ("unexpected", .own 1)], [.list (ms.map .int), .list (us.map .int)]⟩) (d := .tup [.own 0, .own 1]) (o := ?o) (fd := ?fd) (body := ?body) (ps := ["expected", "actual"]) (cs := []) ?ho ?hd ?hcd ?hbody ?hbind ?hclo ?hg ?hb ?hco ?hgen ?hk ?hps (by decide) (fun x hx => nomatch hx) rfl ?hpure ?run ?hret
  case ho => (rw [hK]; with_unfolding_all rfl)
  case hd => rfl
  case hcd => (rw [hK]; with_unfolding_all rfl)
  case hbody => rfl
  case hbind => exact hb2 fun a b => rfl
  case hclo => rfl
  case hg => rfl
  case hb => rfl
  case hco => rfl
  case hgen => rfl
  case hk => rfl
  case hps => rfl
  case hpure =>
    show ((xs.map D.int).all (pureP 5) && ((ys.map D.int).all (pureP 5) && true)) = true
    rw [pure_ints, pure_ints]; rfl
  case run =>
    refine ext_cons (ex_two (d := .int 0) rfl rfl ev_int (fun _ => rfl)).toT ?_
    refine ext_cons (ex_own (ds := []) rfl .nil (by decide)).toT ?_
    refine ext_cons (ex_own (ds := []) rfl .nil (by decide)).toT ?_
    refine ext_cons (S₁ := ⟨[("expected", .list (xs.map .int)), ("actual", .list (ys.map .int)), ("missing", .own 0), ("unexpected", .own 1)], [.list (ms.map .int), .list (us.map .int)]⟩) ?_ (ext_one (Ex.toT (ex_return ?_)))
    · refine ext_loop (fun S => ?_) (fun m S => ∃ (i j : Nat) (m1 u1 : List Int), MI xs ys i j m1 u1 ∧ m = (xs.length - i) + (ys.length - j) ∧ Wk S ⟨cn xs ys i j, [.list (m1.map .int), .list (u1.map .int)]⟩) (fun m S hI => ?_) (xs.length + ys.length) ?_
      · exact ts_plain ev_bool (fun A fs L v env h₀ lo s Q R P k => by cases R; exact wpAny_truthy_bool (k s.toks)) (fun env => rfl)
      · obtain ⟨i, j, m1, u1, M, rfl, hw⟩ := hI
        have hi := M.hi
        have hj := M.hj
        have hm1 : m1.length ≤ 1000 := by rw [M.mi]; exact Nat.le_trans (List.length_filter_le _ _) (by rw [List.length_take]; omega)
        have hu1 : u1.length ≤ 1000 := by rw [M.ui]; exact Nat.le_trans (List.length_filter_le _ _) (by rw [List.length_take]; omega)
        have fin : ∀ {i' j' : Nat} {m2 u2 : List Int}, MI xs ys i' j' m2 u2 → (xs.length ≤ i' ∨ ys.length ≤ j') → [Own.list (ms.map .int), Own.list (us.map .int)] = [Own.list (m2.map .int ++ (xs.drop i').map .int), Own.list (u2.map .int ++ (ys.drop j').map .int)] := fun M2 h => by
          rw [← List.map_append, ← List.map_append, M2.fin h, M2.swap.fin h.symm, hms, hus]
        by_cases h1 : i < xs.length
        · by_cases h2 : j < ys.length
          · rcases Int.lt_trichotomy xs[i] ys[j] with hc | hc | hc
            · have M' := M.left hx hy h1 (all_lt hy h2 hc)
              by_cases h3 : i + 1 < xs.length
              · refine .inl ⟨_, ⟨cn xs ys (i + 1) (j), [.list ((m1 ++ [xs[i]]).map .int), .list ((u1).map .int)]⟩, ext_start hw (t_next ?_), ?_, i + 1, j, m1 ++ [xs[i]], u1, M', rfl, ⟨fun p hp => hp, rfl⟩⟩
                · refine q_cons (ex_assign rfl rfl (ev_at rfl rfl h1 lx' rfl rfl rfl rfl)) ?_
                  refine q_cons (ex_assign rfl rfl (ev_at rfl rfl h2 ly' rfl rfl rfl rfl)) ?_
                  refine q_if (b := true) (ts_ints rfl rfl (lt_ok hc) rfl rfl rfl rfl) ?_
                  refine q_cons (ex_append (ev_var rfl rfl rfl) rfl (ev_var rfl rfl rfl) (fun _ => rfl) rfl (by (simp only [List.length_map, List.length_append, List.length_drop, List.length_cons, List.length_nil]; omega))) ?_
                  refine q_cons (ex_aug rfl rfl ev_int rfl) ?_
                  refine q_cons (ex_while0 (ts_ne rfl rfl rfl h3 lx' (up1 hx h3) rfl rfl rfl rfl rfl rfl)) (q_nil ?_)
                  exact wk_cn rfl rfl rfl rfl rfl rfl (by rw [List.map_append (l₂ := [xs[i]])]; rfl)
                · omega
              · refine .inr (ext_start hw (t_brk rfl hg ?_))
                refine r_tail (ex_assign rfl rfl (ev_at rfl rfl h1 lx' rfl rfl rfl rfl)) ?_
                refine r_tail (ex_assign rfl rfl (ev_at rfl rfl h2 ly' rfl rfl rfl rfl)) ?_
                refine r_if (b := true) (ts_ints rfl rfl (lt_ok hc) rfl rfl rfl rfl) ?_
                refine r_tail (ex_append (ev_var rfl rfl rfl) rfl (ev_var rfl rfl rfl) (fun _ => rfl) rfl (by (simp only [List.length_map, List.length_append, List.length_drop, List.length_cons, List.length_nil]; omega))) ?_
                refine r_tail (ex_aug rfl rfl ev_int rfl) ?_
                refine r_while (rz_cmp (rz_at (xs := xs) (i := i + 1) rfl rfl (by omega) (by omega) rfl rfl rfl rfl) rfl) ?_
                (refine q_cons (ex_extend (ev_var rfl rfl rfl) rfl (ev_from rfl rfl (by assumption) rfl rfl rfl rfl) (fun _ => rfl) rfl (by (simp only [List.length_map, List.length_append, List.length_drop, List.length_cons, List.length_nil]; omega))) ?_; refine q_cons (ex_extend (ev_var rfl rfl rfl) rfl (ev_from rfl rfl (by assumption) rfl rfl rfl rfl) (fun _ => rfl) rfl (by (simp only [List.length_map, List.length_append, List.length_drop, List.length_cons, List.length_nil]; omega))) ?_; refine q_stop (fun q => nomatch q) ex_break ?_)
                exact wk_fin rfl rfl rfl rfl ((fin M' (by omega)).trans (by rw [List.map_append (l₂ := [xs[i]])]; rfl))
            · have M' := M.both hx hy h1 h2 hc
              by_cases h3 : i + 1 < xs.length
              · by_cases h4 : j + 1 < ys.length
                · refine .inl ⟨_, ⟨cn xs ys (i + 1) (j + 1), [.list ((m1).map .int), .list ((u1).map .int)]⟩, ext_start hw (t_next ?_), ?_, i + 1, j + 1, m1, u1, M', rfl, ⟨fun p hp => hp, rfl⟩⟩
                  · refine q_cons (ex_assign rfl rfl (ev_at rfl rfl h1 lx' rfl rfl rfl rfl)) ?_
                    refine q_cons (ex_assign rfl rfl (ev_at rfl rfl h2 ly' rfl rfl rfl rfl)) ?_
                    refine q_if (b := false) (ts_ints rfl rfl (lt_no (by omega)) rfl rfl rfl rfl) ?_
                    refine q_if (b := false) (ts_ints rfl rfl (gt_no (by omega)) rfl rfl rfl rfl) ?_
                    refine q_cons (ex_aug rfl rfl ev_int rfl) ?_
                    refine q_fin ?_
                    refine q_cons (ex_while0 (ts_ne rfl rfl rfl h3 lx' (up1 hx h3) rfl rfl rfl rfl rfl rfl)) (q_nil ?_)
                    refine q_cons (ex_aug rfl rfl ev_int rfl) ?_
                    refine q_cons (ex_while0 (ts_ne rfl rfl rfl h4 ly' (up1 hy h4) rfl rfl rfl rfl rfl rfl)) (q_nil ?_)
                    exact wk_cn rfl rfl rfl rfl rfl rfl (rfl)
                  · omega
                · refine .inr (ext_start hw (t_brk rfl hg ?_))
                  refine r_tail (ex_assign rfl rfl (ev_at rfl rfl h1 lx' rfl rfl rfl rfl)) ?_
                  refine r_tail (ex_assign rfl rfl (ev_at rfl rfl h2 ly' rfl rfl rfl rfl)) ?_
                  refine r_if (b := false) (ts_ints rfl rfl (lt_no (by omega)) rfl rfl rfl rfl) ?_
                  refine r_if (b := false) (ts_ints rfl rfl (gt_no (by omega)) rfl rfl rfl rfl) ?_
                  refine r_tail (ex_aug rfl rfl ev_int rfl) ?_
                  refine r_fin_rz ?_
                  refine q_cons (ex_while0 (ts_ne rfl rfl rfl h3 lx' (up1 hx h3) rfl rfl rfl rfl rfl rfl)) (q_nil ?_)
                  refine r_tail (ex_aug rfl rfl ev_int rfl) ?_
                  refine r_while (rz_cmp (rz_at (xs := ys) (i := j + 1) rfl rfl (by omega) (by omega) rfl rfl rfl rfl) rfl) ?_
                  (refine q_cons (ex_extend (ev_var rfl rfl rfl) rfl (ev_from rfl rfl (by assumption) rfl rfl rfl rfl) (fun _ => rfl) rfl (by (simp only [List.length_map, List.length_append, List.length_drop, List.length_cons, List.length_nil]; omega))) ?_; refine q_cons (ex_extend (ev_var rfl rfl rfl) rfl (ev_from rfl rfl (by assumption) rfl rfl rfl rfl) (fun _ => rfl) rfl (by (simp only [List.length_map, List.length_append, List.length_drop, List.length_cons, List.length_nil]; omega))) ?_; refine q_stop (fun q => nomatch q) ex_break ?_)
                  exact wk_fin rfl rfl rfl rfl (fin M' (.inr (Nat.le_of_not_lt h4)))
              · by_cases h4 : j + 1 < ys.length
                · refine .inr (ext_start hw (t_brk rfl hg ?_))
                  refine r_tail (ex_assign rfl rfl (ev_at rfl rfl h1 lx' rfl rfl rfl rfl)) ?_
                  refine r_tail (ex_assign rfl rfl (ev_at rfl rfl h2 ly' rfl rfl rfl rfl)) ?_
                  refine r_if (b := false) (ts_ints rfl rfl (lt_no (by omega)) rfl rfl rfl rfl) ?_
                  refine r_if (b := false) (ts_ints rfl rfl (gt_no (by omega)) rfl rfl rfl rfl) ?_
                  refine r_tail (ex_aug rfl rfl ev_int rfl) ?_
                  refine r_rz_ok ?_
                  refine r_while (rz_cmp (rz_at (xs := xs) (i := i + 1) rfl rfl (by omega) (by omega) rfl rfl rfl rfl) rfl) ?_
                  refine q_cons (ex_aug rfl rfl ev_int rfl) ?_
                  refine q_cons (ex_while0 (ts_ne rfl rfl rfl h4 ly' (up1 hy h4) rfl rfl rfl rfl rfl rfl)) (q_nil ?_)
                  (refine q_cons (ex_extend (ev_var rfl rfl rfl) rfl (ev_from rfl rfl (by assumption) rfl rfl rfl rfl) (fun _ => rfl) rfl (by (simp only [List.length_map, List.length_append, List.length_drop, List.length_cons, List.length_nil]; omega))) ?_; refine q_cons (ex_extend (ev_var rfl rfl rfl) rfl (ev_from rfl rfl (by assumption) rfl rfl rfl rfl) (fun _ => rfl) rfl (by (simp only [List.length_map, List.length_append, List.length_drop, List.length_cons, List.length_nil]; omega))) ?_; refine q_stop (fun q => nomatch q) ex_break ?_)
                  exact wk_fin rfl rfl rfl rfl (fin M' (.inl (Nat.le_of_not_lt h3)))
                · refine .inr (ext_start hw (t_brk rfl hg ?_))
                  refine r_tail (ex_assign rfl rfl (ev_at rfl rfl h1 lx' rfl rfl rfl rfl)) ?_
                  refine r_tail (ex_assign rfl rfl (ev_at rfl rfl h2 ly' rfl rfl rfl rfl)) ?_
                  refine r_if (b := false) (ts_ints rfl rfl (lt_no (by omega)) rfl rfl rfl rfl) ?_
                  refine r_if (b := false) (ts_ints rfl rfl (gt_no (by omega)) rfl rfl rfl rfl) ?_
                  refine r_tail (ex_aug rfl rfl ev_int rfl) ?_
                  refine r_rz_rz hqq.q ?_
                  refine r_while (rz_cmp (rz_at (xs := xs) (i := i + 1) rfl rfl (by omega) (by omega) rfl rfl rfl rfl) rfl) ?_
                  refine r_tail (ex_aug rfl rfl ev_int rfl) ?_
                  refine r_while (rz_cmp (rz_at (xs := ys) (i := j + 1) rfl rfl (by omega) (by omega) rfl rfl rfl rfl) rfl) ?_
                  (refine q_cons (ex_extend (ev_var rfl rfl rfl) rfl (ev_from rfl rfl (by assumption) rfl rfl rfl rfl) (fun _ => rfl) rfl (by (simp only [List.length_map, List.length_append, List.length_drop, List.length_cons, List.length_nil]; omega))) ?_; refine q_cons (ex_extend (ev_var rfl rfl rfl) rfl (ev_from rfl rfl (by assumption) rfl rfl rfl rfl) (fun _ => rfl) rfl (by (simp only [List.length_map, List.length_append, List.length_drop, List.length_cons, List.length_nil]; omega))) ?_; refine q_stop (fun q => nomatch q) ex_break ?_)
                  exact wk_fin rfl rfl rfl rfl (fin M' (.inl (Nat.le_of_not_lt h3)))
            · have M' := (M.swap.left hy hx h2 (all_lt hx h1 hc)).swap
              by_cases h4 : j + 1 < ys.length
              · refine .inl ⟨_, ⟨cn xs ys (i) (j + 1), [.list ((m1).map .int), .list ((u1 ++ [ys[j]]).map .int)]⟩, ext_start hw (t_next ?_), ?_, i, j + 1, m1, u1 ++ [ys[j]], M', rfl, ⟨fun p hp => hp, rfl⟩⟩
                · refine q_cons (ex_assign rfl rfl (ev_at rfl rfl h1 lx' rfl rfl rfl rfl)) ?_
                  refine q_cons (ex_assign rfl rfl (ev_at rfl rfl h2 ly' rfl rfl rfl rfl)) ?_
                  refine q_if (b := false) (ts_ints rfl rfl (lt_no (by omega)) rfl rfl rfl rfl) ?_
                  refine q_if (b := true) (ts_ints rfl rfl (gt_ok hc) rfl rfl rfl rfl) ?_
                  refine q_cons (ex_append (ev_var rfl rfl rfl) rfl (ev_var rfl rfl rfl) (fun _ => rfl) rfl (by (simp only [List.length_map, List.length_append, List.length_drop, List.length_cons, List.length_nil]; omega))) ?_
                  refine q_cons (ex_aug rfl rfl ev_int rfl) ?_
                  refine q_cons (ex_while0 (ts_ne rfl rfl rfl h4 ly' (up1 hy h4) rfl rfl rfl rfl rfl rfl)) (q_nil ?_)
                  exact wk_cn rfl rfl rfl rfl rfl rfl (by rw [List.map_append (l₂ := [ys[j]])]; rfl)
                · omega
              · refine .inr (ext_start hw (t_brk rfl hg ?_))
                refine r_tail (ex_assign rfl rfl (ev_at rfl rfl h1 lx' rfl rfl rfl rfl)) ?_
                refine r_tail (ex_assign rfl rfl (ev_at rfl rfl h2 ly' rfl rfl rfl rfl)) ?_
                refine r_if (b := false) (ts_ints rfl rfl (lt_no (by omega)) rfl rfl rfl rfl) ?_
                refine r_if (b := true) (ts_ints rfl rfl (gt_ok hc) rfl rfl rfl rfl) ?_
                refine r_tail (ex_append (ev_var rfl rfl rfl) rfl (ev_var rfl rfl rfl) (fun _ => rfl) rfl (by (simp only [List.length_map, List.length_append, List.length_drop, List.length_cons, List.length_nil]; omega))) ?_
                refine r_tail (ex_aug rfl rfl ev_int rfl) ?_
                refine r_while (rz_cmp (rz_at (xs := ys) (i := j + 1) rfl rfl (by omega) (by omega) rfl rfl rfl rfl) rfl) ?_
                (refine q_cons (ex_extend (ev_var rfl rfl rfl) rfl (ev_from rfl rfl (by assumption) rfl rfl rfl rfl) (fun _ => rfl) rfl (by (simp only [List.length_map, List.length_append, List.length_drop, List.length_cons, List.length_nil]; omega))) ?_; refine q_cons (ex_extend (ev_var rfl rfl rfl) rfl (ev_from rfl rfl (by assumption) rfl rfl rfl rfl) (fun _ => rfl) rfl (by (simp only [List.length_map, List.length_append, List.length_drop, List.length_cons, List.length_nil]; omega))) ?_; refine q_stop (fun q => nomatch q) ex_break ?_)
                exact wk_fin rfl rfl rfl rfl ((fin M' (by omega)).trans (by rw [List.map_append (l₂ := [ys[j]])]; rfl))
          · refine .inr (ext_start hw (t_brk rfl hg ?_))
            refine r_tail (ex_assign rfl rfl (ev_at rfl rfl h1 lx' rfl rfl rfl rfl)) ?_
            refine r_assign rfl (rz_at (xs := ys) (i := j) rfl rfl (by omega) (by omega) rfl rfl rfl rfl) ?_
            (refine q_cons (ex_extend (ev_var rfl rfl rfl) rfl (ev_from rfl rfl (by assumption) rfl rfl rfl rfl) (fun _ => rfl) rfl (by (simp only [List.length_map, List.length_append, List.length_drop, List.length_cons, List.length_nil]; omega))) ?_; refine q_cons (ex_extend (ev_var rfl rfl rfl) rfl (ev_from rfl rfl (by assumption) rfl rfl rfl rfl) (fun _ => rfl) rfl (by (simp only [List.length_map, List.length_append, List.length_drop, List.length_cons, List.length_nil]; omega))) ?_; refine q_stop (fun q => nomatch q) ex_break ?_)
            exact wk_fin rfl rfl rfl rfl (fin M (by omega))
        · refine .inr (ext_start hw (t_brk rfl hg ?_))
          refine r_assign rfl (rz_at (xs := xs) (i := i) rfl rfl (by omega) (by omega) rfl rfl rfl rfl) ?_
          (refine q_cons (ex_extend (ev_var rfl rfl rfl) rfl (ev_from rfl rfl (by assumption) rfl rfl rfl rfl) (fun _ => rfl) rfl (by (simp only [List.length_map, List.length_append, List.length_drop, List.length_cons, List.length_nil]; omega))) ?_; refine q_cons (ex_extend (ev_var rfl rfl rfl) rfl (ev_from rfl rfl (by assumption) rfl rfl rfl rfl) (fun _ => rfl) rfl (by (simp only [List.length_map, List.length_append, List.length_drop, List.length_cons, List.length_nil]; omega))) ?_; refine q_stop (fun q => nomatch q) ex_break ?_)
          exact wk_fin rfl rfl rfl rfl (fin M (by omega))
      · exact ⟨0, 0, [], [], MI.start xs ys, rfl, wk_cn rfl rfl rfl rfl rfl rfl rfl⟩
    · exact v_tup (v_more (ev_var rfl rfl rfl) (v_more (ev_var rfl rfl rfl) .nil))
  case hret =>
    have h1 : ∀ l : List Int, (if (l.map D.int).all (pureP 5) = true then some (D.list (l.map D.int)) else none) = some (.list (l.map .int)) := fun l => by rw [if_pos (by exact pure_ints _)]
    simp only [retT, retL, retP, List.getElem?_cons_zero, List.getElem?_cons_succ, h1]
end
section
open PySem PySem.W PyProof.Rows PySem.Spec PySem.Calls
open AutoSeq1 (wpAny_loadPart')
set_option maxRecDepth 100000
set_option maxHeartbeats 1000000
section
variable {prog : Program} {w : World} {A : Around} {E : Value → Shared → Prop} {s : Shared}
theorem nextOf_tup_item {it l : Addr} {i : Nat} {items : Array Value} {x : Value} {Q : Value → Shared → Prop} (hit : s.heap.IsTupleIter it l i)
    (hl : s.heap.IsTuple l items) (hx : items[i]? = some x)
    (hQ : ∀ h', h'.IsTupleIter it l (i + 1) → Heap.SameBut it s.heap h' → Q x { s with heap := h' }) :
    wpAny (model prog w) A (Builtin.SmallTypes.nextOf (.ref it)) Q E s := by
  obtain ⟨o, ho, hc, hd⟩ := id hit
  obtain ⟨ol, hol, _, nl, hdl⟩ := hl
  unfold Builtin.SmallTypes.nextOf
  refine wpAny_bind (wpAny_callSpecial?_slot (name := Str.ofString "__next__") hit.typeIs F.slot_tuple_iterator_next
    (wpAny_call_entry F.slot_tuple_iterator_next hit.typeIs F.entry_tuple_iterator_next ?_ (F.args_tuple_iterator_next_1 _)))
  show wpAny _ _ (field (.ref it) 0 >>= _) _ _ s
  refine wpAny_bind (wpAny_field ho hd (x := .ref l) rfl ?_)
  show wpAny _ _ (if (Value.ref l == Value.none) = true then _ else _) _ _ s
  rw [if_neg (show ¬ ((Value.ref l == Value.none) = true) from Bool.false_ne_true)]
  show wpAny _ _ (field (.ref it) 1 >>= _) _ _ s
  refine wpAny_bind (wpAny_field ho hd (x := .int i 0) rfl ?_)
  show wpAny _ _ (seqItems? (.ref l) >>= _) _ _ s
  refine wpAny_bind (wpAny_seqItems hol hdl ?_)
  simp only [Int.toNat_natCast, hx]
  refine wpAny_bind (wpAny_setField ho hd (by simp) (wpAny_pure ⟨x, rfl, wpAny_pure (hQ _ ?_ (Heap.SameBut.update ..))⟩))
  exact ⟨_, Heap.get?_update_self _ ho (Obj.isFreed_of_fields (Obj.data_mapFields hd _)), (Obj.cls_mapFields ..).trans hc, by
    rw [Obj.data_mapFields hd]; simp [rawInt]⟩
theorem nextOf_tup_end {it l : Addr} {i : Nat} {items : Array Value} {Q : Value → Shared → Prop} (hh : A.handled = none)
    (hit : s.heap.IsTupleIter it l i) (hl : s.heap.IsTuple l items) (hx : items[i]? = none)
    (hE : ∀ h' e, Heap.ExtBut it s.heap h' → (∃ o, h'.get? e = some o ∧ o.cls = .type "StopIteration") → E (.ref e) { s with heap := h' }) :
    wpAny (model prog w) A (Builtin.SmallTypes.nextOf (.ref it)) Q E s := by
  obtain ⟨o, ho, hc, hd⟩ := id hit
  obtain ⟨ol, hol, _, nl, hdl⟩ := hl
  unfold Builtin.SmallTypes.nextOf
  refine wpAny_bind (wpAny_callSpecial?_slot (name := Str.ofString "__next__") hit.typeIs F.slot_tuple_iterator_next
    (wpAny_call_entry F.slot_tuple_iterator_next hit.typeIs F.entry_tuple_iterator_next ?_ (F.args_tuple_iterator_next_1 _)))
  show wpAny _ _ (field (.ref it) 0 >>= _) _ _ s
  refine wpAny_bind (wpAny_field ho hd (x := .ref l) rfl ?_)
  show wpAny _ _ (if (Value.ref l == Value.none) = true then _ else _) _ _ s
  rw [if_neg (show ¬ ((Value.ref l == Value.none) = true) from Bool.false_ne_true)]
  show wpAny _ _ (field (.ref it) 1 >>= _) _ _ s
  refine wpAny_bind (wpAny_field ho hd (x := .int i 0) rfl ?_)
  show wpAny _ _ (seqItems? (.ref l) >>= _) _ _ s
  refine wpAny_bind (wpAny_seqItems hol hdl ?_)
  simp only [Int.toNat_natCast, hx]
  refine wpAny_bind (wpAny_rule (wpAny_bind (wpAny_setField ho hd (by simp) ?_)))
  show wpAny _ _ (newExc (.type "StopIteration") [] >>= _) _ _ _
  refine wpAny_bind ?_
  simp only [newExc, newTuple]
  refine wpAny_bind (wpAny_newObj_type ?_ (by size_fits))
  refine wpAny_bind (m := firstArgMember _ _) (wpAny_of_eq (a := Value.none) (by first | rfl | (simp only [firstArgMember]; rfl)) ?_)
  refine wpAny_newObj_type ?_ (by size_fits)
  simp only [raiseNew]
  refine wpAny_bind (wpAny_handled ?_)
  first | rw [show A.in1.handled = none from hh] | rw [hh]
  refine wpAny_bind (wpAny_pure (wpAny_throw ?_))
  exact hE _ _ (((Heap.SameBut.update ..).extBut.push _).push _) ⟨_, Heap.get?_push_size _ rfl, rfl⟩
end
theorem tupleIter_at {h h' : Heap} {a t : Addr} {i : Nat} (x : h.IsTupleIter a t i) (k : ∀ o, h.get? a = some o → h'.get? a = some o) : h'.IsTupleIter a t i := let ⟨o, ho, r⟩ := x; ⟨o, k o ho, r⟩
theorem tuple_at {h h' : Heap} {a : Addr} {items : Array Value} (x : h.IsTuple a items) (k : ∀ o, h.get? a = some o → h'.get? a = some o) : h'.IsTuple a items := let ⟨o, ho, r⟩ := x; ⟨o, k o ho, r⟩
theorem draws_tup {prog : Program} {w : World} {A : Around} (hh : A.handled = none) (it l : Addr) (hne : l ≠ it) (items : Array Value) :
    Draws prog w A it [it, l] items.size (fun i v => items[i]? = some v) (fun i h => h.IsTupleIter it l i ∧ h.IsTuple l items) where
  live := fun _ _ st => let ⟨o, ho, _⟩ := st.1; ⟨o, ho⟩
  frame := fun _ _ _ st hk => ⟨tupleIter_at st.1 fun o e => hk it (by simp) o e, tuple_at st.2 fun o e => hk l (by simp) o e⟩
  item := fun i s Q E hi st hQ => by
    refine nextOf_tup_item st.1 st.2 (x := items[i]) (by simp [hi]) fun h' hit' hs' => ?_
    exact hQ _ h' s.toks (by simp [hi]) ⟨hit', st.2.extBut hs'.extBut hne⟩ hs'
  done := fun s Q E st hE => nextOf_tup_end hh st.1 st.2 (by simp) hE
theorem meets_enum_tup (l : Addr) (items : Array Value) (n : Nat) (dct : Option Addr) (sl : Array (Option Value)) :
    Meets (Builtin.«enumerate.__new__» ⟨[.type "enumerate", .ref l], []⟩) (fun _ R s => s.heap.get? l = some { cls := .type "tuple", dict := dct, data := .seq items n, slots := sl } ∧
      R (.ok (.ret (.ref (s.heap.push { cls := .type "tuple_iterator", data := .fields #[.ref l, .int 0 0] }).objs.size)))
        { s with heap := (s.heap.push { cls := .type "tuple_iterator", data := .fields #[.ref l, .int 0 0] }).push { cls := .type "enumerate", data := .fields #[.none, .bool false, .ref s.heap.objs.size, rawInt 0, .none, .none] } }) :=
  .of_wp fun prog w A R s h => by
    obtain ⟨hp, g, d, tk, os⟩ := s; obtain ⟨hl, h⟩ := h
    have hsub := sub_enumerate
    have hL : Heap.IsTuple (Shared.heap ⟨hp, g, d, tk, os⟩) l items := ⟨_, hl, rfl, n, rfl⟩
    wp_walk using wpAny_loadPart' hl
    refine wpAny_stack_any fun st => wpAny_pure ?_
    split
    · rename_i c _ _ _ _ _
      cases (c == Value.type "enumerate")
      · wp_walk using wpAny_loadPart' hl, wpAny_pyIter_tuple hL
        exact ⟨_, rfl, h⟩
      · wp_walk using wpAny_loadPart' hl, wpAny_pyIter_tuple hL
        exact ⟨_, rfl, h⟩
    · wp_walk using wpAny_loadPart' hl, wpAny_pyIter_tuple hL
      exact ⟨_, rfl, h⟩
section
variable {prog : Program} {w : World} {A : Around} {E : Value → Shared → Prop} {s : Shared}
theorem call_enum_tup {l : Addr} {items : Array Value} {Q : Value → Shared → Prop} (hL : s.heap.IsTuple l items)
    (h : ∀ h', IsEnum h' (s.heap.objs.size + 1) s.heap.objs.size 0 .none → h'.IsTupleIter s.heap.objs.size l 0 → h'.objs.size = s.heap.objs.size + 2 →
      (∀ b o, s.heap.get? b = some o → h'.get? b = some o) → Q (.ref (s.heap.objs.size + 1)) { s with heap := h' }) :
    wpAny (model prog w) A (call (.type "enumerate") [.ref l]) Q E s := by
  obtain ⟨⟨c, dct, dt, sl⟩, hl, hc, n, hd⟩ := hL
  replace hc : c = .type "tuple" := hc
  replace hd : dt = .seq items n := hd
  subst hc hd
  refine callType_new F.called_enumerate (by decide) (F.typeCall_enumerate_1 _) (F.newCall_enumerate_1 _) (fun obj => F.args_object_init_2 obj _) F.entry_enumerate_new
    (meets_enum_tup l items n dct sl) ⟨hl, ?_⟩
  have hz : (s.heap.push { cls := .type "tuple_iterator", data := .fields #[.ref l, .int 0 0] }).objs.size = s.heap.objs.size + 1 := Heap.size_push ..
  show _ ∧ _
  rw [hz]
  have he : IsEnum ((s.heap.push { cls := .type "tuple_iterator", data := .fields #[.ref l, .int 0 0] }).push
      { cls := .type "enumerate", data := .fields #[.none, .bool false, .ref s.heap.objs.size, rawInt 0, .none, .none] }) (s.heap.objs.size + 1) s.heap.objs.size 0 .none := by
    have := Heap.get?_push_size (s.heap.push { cls := .type "tuple_iterator", data := .fields #[.ref l, .int 0 0] })
      (o := { cls := .type "enumerate", data := .fields #[.none, .bool false, .ref s.heap.objs.size, rawInt 0, .none, .none] }) rfl
    rw [hz] at this; exact this
  refine ⟨⟨_, he, rfl⟩, h _ he ⟨_, Heap.get?_push_of_some _ (Heap.get?_push_size _ rfl), rfl, rfl⟩ (by rw [Heap.size_push, hz]) fun b o x => Heap.get?_push_of_some _ (Heap.get?_push_of_some _ x)⟩
end
end
section
open PySem PySem.W PyProof.Rows PySem.Spec PySem.Calls
set_option maxRecDepth 100000
set_option maxHeartbeats 1000000
/-- statements, where some objects of the base stand in the ledger -/
def ExB (W : Wd) (n : Nat) (nm : List (Str × NameKind)) (cs : List Str) (bl : Led) (S : St) (t : Env → Sem Flow) (F : Flo) (S' : St) : Prop :=
  ∀ (A : Around) (fs : List Addr) (env : Env) (h₀ : Heap) (s : Shared) (L : Lg) (Q : Flow → Shared → Prop), (∀ p ∈ bl, p ∈ L.led) → Pre W n A fs nm cs env h₀ 0 S s.heap L →
    (∀ f h' tk L', FloIs L' f F → Pre W n A fs nm cs env h₀ 0 S' h' L' → ArrS s.heap L h' L' → Q f { s with heap := h', toks := tk }) → wpAny W.M A (t env) Q NoE s
def enumD : Nat → List D → List D
  | _, [] => []
  | i, d :: r => .tup [.int i, d] :: enumD (i + 1) r
section
variable {W : Wd} {n : Nat} {A : Around} {fs : List Addr} {nm : List (Str × NameKind)} {cs : List Str} {bl : Led} {env : Env} {h₀ h h' : Heap} {lo : Nat} {S S' S₁ S₂ : St} {L L' : Lg} {s : Shared} {F : Flo}
theorem Ex.toB {t : Env → Sem Flow} (x : Ex W n nm cs S t F S') : ExB W n nm cs bl S t F S' := fun A fs env h₀ s L Q hb P k => x A fs env h₀ s L Q P k
theorem exb_cons {st : PySem.Stmt} {rest : List PySem.Stmt} (x : ExB W n nm cs bl S (exec st) .next S₁) (y : ExB W n nm cs bl S₁ (execs rest) F S') : ExB W n nm cs bl S (execs (st :: rest)) F S' := by
  intro A fs env h₀ s L Q hb P k
  refine wpAny_execs_cons (x A fs env h₀ s L _ hb P fun f h1 t1 L1 f1 P1 a1 => ?_)
  cases f1
  exact y A fs env h₀ { s with heap := h1, toks := t1 } L1 _ (fun p hp => a1.more.le.led _ (hb p hp)) P1 fun f h2 t2 L2 f2 P2 a2 => k f h2 t2 L2 f2 P2 (a1.trans a2)
theorem mem2 {P : Addr → Prop} {x y : Addr} (p : P x) (q : P y) : ∀ b ∈ [x, y], P b := fun b hb => (List.mem_cons.mp hb).elim (fun e => e ▸ p) fun hb => List.mem_singleton.mp hb ▸ q
theorem get_ne {h : Heap} {a b : Addr} {o : Obj} (e : h.get? a = some o) (n : h.get? b = none) (z : a = b) : False := no_some ((z ▸ e).symm.trans n).symm
theorem get_none {h h' : Heap} {b : Addr} (k : ∀ o, h.get? b = some o → h'.get? b = some o) (z : h'.get? b = none) : h.get? b = none := by
  cases w : h.get? b with
  | none => rfl
  | some o => rw [k o w] at z; cases z
theorem exb_for [hqq : Quiet W] {x : Str} {fp ap cp tp pos : Pos} {es : List PySem.Expr} {j : Nat} {body : List PySem.Stmt} {a : Addr} {vs : List Value} {c : Nat} {ds : List D} {k : Nat}
    (hy1 : nm.lookup ("enumerate" : Str) = some .globalImplicit) (hy2 : W.mg "enumerate" = none) (hx1 : nm.lookup x = some .globalImplicit) (hx2 : W.mg x = some (.ref a)) (hx3 : (x == ("__debug__" : Str)) = false)
    (hrep : ∀ L : Lg, (∀ p ∈ bl, p ∈ L.led) → (a, tob vs c) ∈ L.led ∧ Reps L vs ds)
    (hr : FoR W n nm cs (.Tuple es j tp) body [] k (.items (enumD 0 ds)) S F S') :
    ExB W n nm cs bl S (exec (.For (.Tuple es j tp) (.Call (.Name "enumerate" fp) [.Name x ap] [] cp) body [] pos)) F S' := by
  intro A fs env h₀ s L Q hbl P q
  have hstar : ∀ env, starEach [PySem.Expr.Name x ap] env = [(false, eval (.Name x ap) env)] := fun _ => rfl
  refine wpAny_For (Call_Name rfl (ev_bind (ev_builtin (v := .type "enumerate") hy1 hy2 boot_enumerate (by decide) (by decide)) P fun v h1 t1 L1 P1 a1 r1 => ?_)) (fun _ => rfl)
  subst r1
  have hbl1 : ∀ p ∈ bl, p ∈ L1.led := fun p hp => a1.le.led _ (hbl p hp)
  refine callWith_of (P := fun h => W.K.In h) rfl (fun h X => (Keepy.looks (W := W) (f := .type "enumerate") (.inl fun a z => nomatch z)) h X) ?_
  refine evalArgs_plain (spliced_more (ev_bind (ev_glob hx1 hx2 hx3) P1 fun v h2 t2 L2 P2 a2 r2 => spliced_none ?_) rfl)
  subst r2
  refine ⟨P2.hi.inK, ?_⟩
  have hbl2 : ∀ p ∈ bl, p ∈ L2.led := fun p hp => a2.le.led _ (hbl1 p hp)
  obtain ⟨hm2, hR2⟩ := hrep L2 hbl2
  have htup : h2.IsTuple a vs.toArray := isTuple_tob (P2.hi.led _ hm2).1
  refine call_enum_tup (s := { s with heap := h2, toks := t2 }) htup fun h3 he3 hit3 hsz3 hk3 => ?_
  refine wpAny_pyIter_enum he3 ?_
  -- the two iterators are new
  obtain ⟨e, he⟩ : ∃ e, e = h2.objs.size + 1 := ⟨_, rfl⟩
  obtain ⟨it, hit⟩ : ∃ it, it = h2.objs.size := ⟨_, rfl⟩
  have ne2 : h2.get? e = none := Heap.get?_none_of_le (by rw [he]; exact Nat.le_succ _)
  have ni2 : h2.get? it = none := Heap.get?_none_of_le (by rw [hit]; exact Nat.le_refl _)
  have hei : e ≠ it := by rw [he, hit]; exact Nat.succ_ne_self _
  have a3 : Arr W n A fs h2 L2 h3 L2 := .of_kp P2.hi (.of_keep hk3)
  have P3 := P2.arr a3
  have n0e : h₀.get? e = none := P2.keep.none ne2
  have n0i : h₀.get? it = none := P2.keep.none ni2
  have ar2 := a1.trans a2
  have nse : s.heap.get? e = none := ar2.kp.none ne2
  have nsi : s.heap.get? it = none := ar2.kp.none ni2
  have nbe : W.base.get? e = none := P.bsz _ n0e
  have nbi : W.base.get? it = none := P.bsz _ n0i
  have hoff : ∀ p ∈ L2.led, p.1 ≠ e ∧ p.1 ≠ it := fun p hp => ⟨get_ne (P2.hi.led p hp).1 ne2, get_ne (P2.hi.led p hp).1 ni2⟩
  have hae : a ≠ e := (hoff _ hm2).1
  have hai : a ≠ it := (hoff _ hm2).2
  rw [← he, ← hit] at he3
  rw [← hit] at hit3
  show codeAny W.M A (.forLoop (.Tuple es j tp) (.ref (h2.objs.size + 1)) body [] env) _ _
  rw [← he]
  have hlen := hR2.length
  have as3 : ArrS s.heap L h3 L2 := (ar2.toS P.hi).trans (a3.toS P2.hi)
  have hD : Draws W.prog W.w A.in1 it [it, a] vs.toArray.size (fun i v => vs.toArray[i]? = some v) (fun i h => h.IsTupleIter it a i ∧ h.IsTuple a vs.toArray) := draws_tup (A := A.in1) (by exact P.hi.handled hqq.q) it a hai vs.toArray
  have hef : e ∉ [it, a] := by simp [hei, Ne.symm hae]
  refine codeAny_forLoop_any (fun m s' => ∃ h3 t3 L3 S3 i old, s' = { s with heap := h3, toks := t3 } ∧ FoR W n nm cs (.Tuple es j tp) body [] m (.items (enumD i (ds.drop i))) S3 F S' ∧ Pre W n A fs nm cs env h₀ 0 S3 h3 L3 ∧ IsEnum h3 e it ((i : Nat) : Int) old ∧ h3.IsTupleIter it a i ∧ i ≤ ds.length ∧ (∀ p ∈ L3.led, p.1 ≠ e ∧ p.1 ≠ it) ∧ (∀ p ∈ bl, p ∈ L3.led) ∧ ArrS s.heap L h3 L3) ?_ k
    ⟨h3, t2, L2, S, 0, .none, rfl, hr, P3, he3, hit3, Nat.zero_le _, hoff, hbl2, as3⟩
  clear he3 hit3 hsz3 hk3 a3 P3 as3 hoff
  rintro m s' ⟨h3, t3, L3, S3, i, old, rfl, hr3, P3, he3, hit3, hi, hoff, hbl3, as3⟩
  cases m with
  | zero => exact hr3.elim
  | succ m =>
    obtain ⟨hm3, hR3⟩ := hrep L3 hbl3
    have htup3 : h3.IsTuple a vs.toArray := isTuple_tob (P3.hi.led _ hm3).1
    rcases Nat.lt_or_ge i ds.length with hlt | hge
    · have hdr : ds.drop i = ds[i] :: ds.drop (i + 1) := List.drop_eq_getElem_cons hlt
      rw [hdr] at hr3
      obtain ⟨S4, F5, S5, hbd, hbo, af⟩ : ∃ S4 F5 S5, bindT nm cs (.Tuple es j tp) (.tup [.int (i : Int), ds[i]]) S3 = some S4 ∧ Ex W n nm cs S4 (execs body) F5 S5 ∧ Aft (FoR W n nm cs (.Tuple es j tp) body [] m (.items (enumD (i + 1) (ds.drop (i + 1))))) F5 S5 F S' := by
        rcases hr3 with ⟨z, _⟩ | ⟨d', y, S4, F5, S5, z, hbd, hbo, af⟩
        · exact no_some z.symm
        · obtain ⟨rfl, rfl⟩ := Prod.mk.inj (Option.some.inj z)
          exact ⟨S4, F5, S5, hbd, hbo, af⟩
      clear hr3 hdr
      refine anyE (wpAny_pyNext_enum_itemD (s := { s with heap := h3, toks := t3 }) hD he3 ⟨hit3, htup3⟩ (by simp [hlen]; exact hlt) hei hef fun y h4 t4 hy ho4 hst4 hT4 hz4 hk4 => ?_)
      obtain ⟨T, hT⟩ : ∃ T, T = h3.objs.size := ⟨_, rfl⟩
      replace ho4 : IsEnumOut h4 e it ((i : Int) + 1) y T := by rw [hT]; exact ho4
      replace hT4 : h4.get? T = some (tob [.int i t4, y] 0) := by rw [hT]; exact hT4
      replace hk4 : ∀ b o, b ≠ e → b ≠ it → h3.get? b = some o → h4.get? b = some o := hk4
      have nT : h3.get? T = none := Heap.get?_none_of_le (by rw [hT]; exact Nat.le_refl _)
      show wpAny _ _ (letOwnedTupleGo _ (.ref e) (.ref h3.objs.size)) _ _ _
      rw [← hT]
      obtain ⟨u, hu, hru⟩ := hR3.get (List.getElem?_eq_getElem hlt)
      have hyu : y = u := by
        have : vs.toArray[i]? = vs[i]? := by simp
        rw [this, hu] at hy
        exact (Option.some.inj hy).symm
      subst hyu
      have ie : ∃ o ws, h3.get? e = some o ∧ o.data = .fields ws := ⟨_, _, he3, rfl⟩
      have ii : ∃ o ws, h3.get? it = some o ∧ o.data = .fields ws := by obtain ⟨o, e1, _, e2⟩ := hit3; exact ⟨o, _, e1, e2⟩
      have Pg := P3.gone (l := [e, it]) (mem2 ie ii) (mem2 n0e n0i) (mem2 nbe nbi) (mem2 (fun p hp => (hoff p hp).1) fun p hp => (hoff p hp).2)
      have kg : Kp fs (TI.gone h3 [e, it]) h4 := .of_keep fun b o z => by
        obtain ⟨z1, z2⟩ := TI.gone_some z
        exact hk4 b o (fun q => z1 (q ▸ .head _)) (fun q => z1 (q ▸ .tail _ (.head _))) z2
      have Hk := Pg.hi.kp kg
      have nTg : (TI.gone h3 [e, it]).get? T = none := TI.none_of (fun b o z => (TI.gone_some z).2) nT
      have nTb : W.base.get? T = none := P3.hi.fresh nT
      have ag : Arr W n A fs (TI.gone h3 [e, it]) L3 h4 ⟨(T, tob [.int i t4, y] 0) :: L3.led, L3.ow⟩ := ⟨⟨Hk.handled, Hk.room, Hk.units, Hk.stk, Hk.base, fun p hp => by
        rcases List.mem_cons.mp hp with rfl | hp
        · exact ⟨hT4, rfl⟩
        · exact Hk.led p hp, P3.hi.nb.cons nTb⟩, kg, [(T, tob [.int i t4, y] 0)], rfl, fun p hp => by rw [List.mem_singleton.mp hp]; exact nTg⟩
      have P4 := Pg.arr ag
      have R4 : Rep ⟨(T, tob [.int i t4, y] 0) :: L3.led, L3.ow⟩ (.ref T) (.tup [.int (i : Int), ds[i]]) := .tup (.head _) (.cons (.int _ _) (.cons (hru.mono ag.le) .nil))
      have as4 : ArrS s.heap L h4 ⟨(T, tob [.int i t4, y] 0) :: L3.led, L3.ow⟩ := by
        refine ⟨⟨fun b o ws z d => hk4 b o (fun q => by rw [q, nse] at z; cases z) (fun q => by rw [q, nsi] at z; cases z) (as3.kp.1 b o ws z d), fun b z => ?_⟩, as3.more.trans as3.kp.2 ⟨[(T, tob [.int i t4, y] 0)], [], by rw [List.append_nil]; rfl, fun p hp => by rw [List.mem_singleton.mp hp]; exact nT⟩⟩
        by_cases q1 : b = e
        · exact q1 ▸ nse
        by_cases q2 : b = it
        · exact q2 ▸ nsi
        exact as3.kp.2 b (get_none (hk4 b · q1 q2) z)
      have hoff4 : ∀ p ∈ (⟨(T, tob [.int i t4, y] 0) :: L3.led, L3.ow⟩ : Lg).led, p.1 ≠ e ∧ p.1 ≠ it := fun p hp => by
        rcases List.mem_cons.mp hp with rfl | hp
        · obtain ⟨_, _, e1, _⟩ := ie
          obtain ⟨_, _, e2, _⟩ := ii
          exact ⟨fun z => get_ne e1 nT z.symm, fun z => get_ne e2 nT z.symm⟩
        · exact hoff p hp
      refine anyE (wpAny_letOwnedTupleGo_enum (s := { s with heap := h4, toks := t4 + 1 }) ho4 fun h5 he5 hs5 => ?_)
      replace hs5 : Heap.SameBut e h4 h5 := hs5
      have P5 := P4.iter ho4 rfl (fun p hp => (hoff4 p hp).1) n0e hs5.extBut
      have as5 : ArrS s.heap L h5 ⟨(T, tob [.int i t4, y] 0) :: L3.led, L3.ow⟩ := ⟨ExtBut.kpS' hs5.extBut as4.kp nse, as4.more⟩
      have hit5 : h5.IsTupleIter it a (i + 1) := hst4.1.extBut hs5.extBut (Ne.symm hei)
      refine anyE (assign_ok (s := { s with heap := h5, toks := t4 + 1 }) P5 R4 hbd fun h6 t6 P6 k6 => ?_)
      have as6 : ArrS h5 ⟨(T, tob [.int i t4, y] 0) :: L3.led, L3.ow⟩ h6 ⟨(T, tob [.int i t4, y] 0) :: L3.led, L3.ow⟩ := ⟨k6.toS, .refl⟩
      have he6 := k6.toS.1 e _ _ he5 rfl
      have hit6 : h6.IsTupleIter it a (i + 1) := by obtain ⟨o, e1, e2, e3⟩ := hit5; exact ⟨o, k6.toS.1 it _ _ e1 e3, e2, e3⟩
      refine anyE (hbo A fs env h₀ { s with heap := h6, toks := t6 } _ _ P6 fun f h7 t7 L7 f7 P7 a7 => ?_)
      have as7 := as5.trans (as6.trans a7)
      refine turn_end (Z := fun f => Q f { s with heap := h7, toks := t7 }) f7 af P7 (fun r => ⟨m, Nat.lt_succ_self _, h7, t7, L7, S5, i + 1, _, rfl, r, P7, a7.kp.1 e _ _ he6 rfl, ?_, hlt, ?_, fun p hp => a7.more.le.led _ (.tail _ (hbl3 p hp)), as7⟩) fun f fi P => q f h7 t7 L7 fi P as7
      · obtain ⟨o, e1, e2, e3⟩ := hit6
        exact ⟨o, a7.kp.1 it _ _ e1 e3, e2, e3⟩
      · obtain ⟨add, ow, rfl, ha⟩ := a7.more
        intro p hp
        rcases List.mem_append.mp hp with hp | hp
        · obtain ⟨o, e1, _⟩ := hit6
          exact ⟨fun z => get_ne he6 (ha p hp) z.symm, fun z => get_ne e1 (ha p hp) z.symm⟩
        · exact hoff4 p hp
    · have hi' : i = vs.toArray.size := by simp [hlen]; omega
      rw [List.drop_eq_nil_of_le hge] at hr3
      have hel : Ex W n nm cs S3 (execs []) F S' := by
        rcases hr3 with ⟨_, z⟩ | ⟨d', y, S4, F5, S5, z, _⟩
        · exact z
        · exact no_some z
      clear hr3
      refine anyE (wpAny_pyNext_enum_endD (s := { s with heap := h3, toks := t3 }) hD he3 (by rw [← hi']; exact ⟨hit3, htup3⟩) fun h4 hx4 => ?_)
      obtain ⟨o, e1, _, e2⟩ := hit3
      have P4 := P3.iter e1 e2 (fun p hp => (hoff p hp).2) n0i hx4
      exact anyE (hel A fs env h₀ { s with heap := h4, toks := t3 } L3 _ P4 fun f h6 t6 L6 f6 P6 a6 => q f h6 t6 L6 f6 P6 ((show ArrS s.heap L h4 L3 from ⟨ExtBut.kpS' hx4 as3.kp nsi, as3.more⟩).trans a6))
theorem fn_okB [hqt : Quiet W] {bl : Led} {f : Addr} {o : Obj} {fd : FuncData} {body : List PySem.Stmt} {ds : List D} {d : D} {ps : List Str} {S' : St} {cs : List Str} (hbl : ∀ p ∈ bl, W.base.get? p.1 = some p.2 ∧ dataOk p.2 = true ∧ p.2.cls ≠ .type "list") (ho : W.K.lookup f = some o) (hd : o.data = .func fd) (hcd : codeIn W.K fd.code fd.qualname = true) (hbody : fd.body = .stmts body)
    (hbind : ∀ vs : List Value, vs.length = ps.length → bindArgs fd ⟨vs, []⟩ = pure (ps.zip vs)) (hclo : fd.closure = []) (hg : fd.globals = mainGlobals) (hb : fd.builtins = builtinsNs) (hco : fd.scope.isCoroutine = false) (hgen : fd.scope.isGenerator = false) (hk : fd.scope.kind = .function)
    (hps : ps.all (fun x => fd.scope.names.lookup x == some .local || fd.scope.names.lookup x == some .cell) = true) (hnd : ps.Nodup) (hcs : ∀ x ∈ cs, fd.scope.names.lookup x = some .cell) (hlen : ds.length = ps.length) (hpure : ds.all (pureP 6) = true)
    (run : ExB W n fd.scope.names cs bl ⟨ps.zip ds, []⟩ (execs body) (.ret d) S') (hflat : d.flat = true) : OpN W (n + 1) (callT (.ref f)) ds d :=
  fn_core hbl ho hd hcd hbody hbind hclo hg hb hco hgen hk hps hnd hcs hlen hpure (fun A fs env _ _ h₀ s L Q _ _ hb P k => run A fs env h₀ s L Q hb P k) fun H P R m hn k => ⟨_, ⟨H.kp k, k, .refl⟩, R.flat hflat⟩
end
end
section
open PySem PySem.W PyProof.Rows PySem.Spec PySem.Calls
set_option maxRecDepth 100000
set_option maxHeartbeats 1000000
-- a tuple of the written part, to the bottom
mutual
inductive TR (K : Frag) : Value → D → Prop
  | int (i : Int) (t : Tok) : TR K (.int i t) (.int i)
  | str (s : Str) (t : Tok) : TR K (.str s t) (.str s)
  | tup {a : Addr} {vs : List Value} {n : Nat} {ds : List D} : K.lookup a = some (tob vs n) → TRs K vs ds → TR K (.ref a) (.tup ds)
inductive TRs (K : Frag) : List Value → List D → Prop
  | nil : TRs K [] []
  | cons {v : Value} {d : D} {vs : List Value} {ds : List D} : TR K v d → TRs K vs ds → TRs K (v :: vs) (d :: ds)
end
def isTupO (o : Obj) : Bool := o.cls == .type "tuple" && dataOk o
def tupsOf (K : Frag) : Led := (K.map (·.1)).filterMap fun a => (K.lookup a).bind fun o => if isTupO o then some (a, o) else none
theorem lookup_mem {a : Addr} {o : Obj} : ∀ {K : Frag}, K.lookup a = some o → a ∈ K.map (·.1) := by
  intro K
  induction K with
  | nil => intro h; cases h
  | cons p r ih =>
    intro h
    obtain ⟨b, o'⟩ := p
    rw [List.lookup_cons] at h
    rw [List.map_cons]
    split at h
    · rename_i q; rw [eq_of_beq q]; exact .head _
    · exact .tail _ (ih h)
theorem tupsOf_mem {K : Frag} {a : Addr} {o : Obj} (h : K.lookup a = some o) (ho : isTupO o = true) : (a, o) ∈ tupsOf K :=
  List.mem_filterMap.mpr ⟨a, lookup_mem h, by rw [h]; show (if isTupO o = true then some (a, o) else none) = _; rw [if_pos ho]⟩
theorem tupsOf_ok {K : Frag} {p : Addr × Obj} (h : p ∈ tupsOf K) : K.lookup p.1 = some p.2 ∧ isTupO p.2 = true := by
  obtain ⟨a, _, e⟩ := List.mem_filterMap.mp h
  cases q : K.lookup a with
  | none => rw [q] at e; exact no_some e
  | some o =>
    rw [q] at e
    have e : (if isTupO o = true then some (a, o) else none) = some p := e
    split at e
    · rename_i ho; cases e; exact ⟨q, ho⟩
    · cases e
mutual
theorem TR.rep {K : Frag} {L : Lg} (hL : ∀ p ∈ tupsOf K, p ∈ L.led) : ∀ {v : Value} {d : D}, TR K v d → Rep L v d
  | _, _, .int i t => .int i t
  | _, _, .str s t => Rep.str s t
  | _, _, .tup h r => .tup (hL _ (tupsOf_mem h rfl)) (TRs.reps hL r)
theorem TRs.reps {K : Frag} {L : Lg} (hL : ∀ p ∈ tupsOf K, p ∈ L.led) : ∀ {vs : List Value} {ds : List D}, TRs K vs ds → Reps L vs ds
  | _, _, .nil => .nil
  | _, _, .cons h r => .cons (TR.rep hL h) (TRs.reps hL r)
end
theorem tups_base {W : Wd} : ∀ p ∈ tupsOf W.K, W.base.get? p.1 = some p.2 ∧ dataOk p.2 = true ∧ p.2.cls ≠ .type "list" := fun p hp => by
  obtain ⟨h1, h2⟩ := tupsOf_ok hp
  unfold isTupO at h2
  rw [Bool.and_eq_true] at h2
  refine ⟨W.X _ _ h1, h2.2, ?_⟩
  rw [eq_of_beq h2.1]
  simp

/-- a search: the first item that hits ends the loop -/
theorem for_find {W : Wd} {n : Nat} {nm : List (Str × NameKind)} {cs : List Str} {t : PySem.Expr} {body els : List PySem.Stmt} (P : D → Prop) (J : St → Prop) (hit : D → Bool) (T : D → St → Prop) (U : St → Prop)
    (turn : ∀ d S, P d → J S → ∃ S1, bindT nm cs t d S = some S1 ∧ (hit d = true → ExQ W n nm cs S1 body .brk (T d)) ∧ (hit d = false → ExQ W n nm cs S1 body .next J))
    (last : ∀ S, J S → ExQ W n nm cs S els .next U) : ∀ (items : List D) (S : St), (∀ d ∈ items, P d) → J S →
    ∃ S2, FoR W n nm cs t body els (items.length + 1) (.items items) S .next S2 ∧ (match items.find? hit with | some d => T d S2 | none => U S2) := by
  intro items
  induction items with
  | nil =>
    intro S hP hJ
    obtain ⟨S2, h1, h2⟩ := last S hJ
    exact ⟨S2, .inl ⟨rfl, h1⟩, h2⟩
  | cons d r ih =>
    intro S hP hJ
    obtain ⟨S1, h1, h2, h3⟩ := turn d S (hP d (.head _)) hJ
    rw [List.find?_cons]
    cases hd : hit d with
    | true =>
      obtain ⟨S2, h4, h5⟩ := h2 hd
      exact ⟨S2, .inr ⟨d, .items r, S1, .brk, S2, rfl, h1, h4, rfl, rfl⟩, h5⟩
    | false =>
      obtain ⟨S2, h4, h5⟩ := h3 hd
      obtain ⟨S3, h6, h7⟩ := ih S2 (fun d h => hP d (.tail _ h)) h5
      exact ⟨S3, .inr ⟨d, .items r, S1, .next, S2, rfl, h1, h4, h6⟩, h7⟩
section
variable {W : Wd} {n : Nat} {nm : List (Str × NameKind)} {cs : List Str} {bl : Led} {S S' S₁ S₂ : St} {F : Flo}
theorem xb_cons {st : PySem.Stmt} {rest : List PySem.Stmt} (x : ExB W n nm cs bl S (exec st) .next S₁) (y : ∃ S', ExB W n nm cs bl S₁ (execs rest) F S') : ∃ S', ExB W n nm cs bl S (execs (st :: rest)) F S' := by
  obtain ⟨S', y⟩ := y
  exact ⟨S', exb_cons x y⟩
theorem xb_for [hqq : Quiet W] {x : Str} {fp ap cp tp pos : Pos} {es : List PySem.Expr} {j : Nat} {body rest : List PySem.Stmt} {a : Addr} {vs : List Value} {c : Nat} {ds : List D} {k : Nat} {J : St → Prop}
    (hy1 : nm.lookup ("enumerate" : Str) = some .globalImplicit) (hy2 : W.mg "enumerate" = none) (hx1 : nm.lookup x = some .globalImplicit) (hx2 : W.mg x = some (.ref a)) (hx3 : (x == ("__debug__" : Str)) = false)
    (hrep : ∀ L : Lg, (∀ p ∈ bl, p ∈ L.led) → (a, tob vs c) ∈ L.led ∧ Reps L vs ds)
    (hr : ∃ S₁, FoR W n nm cs (.Tuple es j tp) body [] k (.items (enumD 0 ds)) S .next S₁ ∧ J S₁)
    (y : ∀ S₁, J S₁ → ∃ S', ExB W n nm cs bl S₁ (execs rest) F S') :
    ∃ S', ExB W n nm cs bl S (execs (.For (.Tuple es j tp) (.Call (.Name "enumerate" fp) [.Name x ap] [] cp) body [] pos :: rest)) F S' := by
  obtain ⟨S₁, h1, h2⟩ := hr
  obtain ⟨S', y⟩ := y S₁ h2
  exact ⟨S', exb_cons (exb_for hy1 hy2 hx1 hx2 hx3 hrep h1) y⟩
end
section
variable {W : Wd} {n : Nat} {A : Around} {fs : List Addr} {h : Heap} {L : Lg} {s : Shared}
theorem fn_okBQ [hqt : Quiet W] {bl : Led} {f : Addr} {o : Obj} {fd : FuncData} {body : List PySem.Stmt} {ds : List D} {d : D} {ps : List Str} {cs : List Str} (hbl : ∀ p ∈ bl, W.base.get? p.1 = some p.2 ∧ dataOk p.2 = true ∧ p.2.cls ≠ .type "list") (ho : W.K.lookup f = some o) (hd : o.data = .func fd) (hcd : codeIn W.K fd.code fd.qualname = true) (hbody : fd.body = .stmts body)
    (hbind : ∀ vs : List Value, vs.length = ps.length → bindArgs fd ⟨vs, []⟩ = pure (ps.zip vs)) (hclo : fd.closure = []) (hg : fd.globals = mainGlobals) (hb : fd.builtins = builtinsNs) (hco : fd.scope.isCoroutine = false) (hgen : fd.scope.isGenerator = false) (hk : fd.scope.kind = .function)
    (hps : ps.all (fun x => fd.scope.names.lookup x == some .local || fd.scope.names.lookup x == some .cell) = true) (hnd : ps.Nodup) (hcs : ∀ x ∈ cs, fd.scope.names.lookup x = some .cell) (hlen : ds.length = ps.length) (hpure : ds.all (pureP 6) = true)
    (run : ∃ S', ExB W n fd.scope.names cs bl ⟨ps.zip ds, []⟩ (execs body) (.ret d) S') (hflat : d.flat = true) : OpN W (n + 1) (callT (.ref f)) ds d := by
  obtain ⟨S', run⟩ := run
  exact fn_okB hbl ho hd hcd hbody hbind hclo hg hb hco hgen hk hps hnd hcs hlen hpure run hflat
end
theorem xb_forT {W : Wd} {n : Nat} {nm : List (Str × NameKind)} {cs : List Str} {S : St} {F : Flo} [hqq : Quiet W] {x : Str} {fp ap cp tp pos : Pos} {es : List PySem.Expr} {j : Nat} {body rest : List PySem.Stmt} {a : Addr} {ds : List D} {k : Nat} {J : St → Prop}
    (hy1 : nm.lookup ("enumerate" : Str) = some .globalImplicit) (hy2 : W.mg "enumerate" = none) (hx1 : nm.lookup x = some .globalImplicit) (hx2 : W.mg x = some (.ref a)) (hx3 : (x == ("__debug__" : Str)) = false)
    (hT : TR W.K (.ref a) (.tup ds))
    (hr : ∃ S₁, FoR W n nm cs (.Tuple es j tp) body [] k (.items (enumD 0 ds)) S .next S₁ ∧ J S₁)
    (y : ∀ S₁, J S₁ → ∃ S', ExB W n nm cs (tupsOf W.K) S₁ (execs rest) F S') :
    ∃ S', ExB W n nm cs (tupsOf W.K) S (execs (.For (.Tuple es j tp) (.Call (.Name "enumerate" fp) [.Name x ap] [] cp) body [] pos :: rest)) F S' := by
  cases hT with
  | tup h r => exact xb_for hy1 hy2 hx1 hx2 hx3 (fun L hL => ⟨hL _ (tupsOf_mem h rfl), r.reps hL⟩) hr y
/-- the pure text of a mode -/
def kinds9 : List (Int × Str) := [(40960, ⟨#[108]⟩), (49152, ⟨#[115]⟩), (32768, ⟨#[45]⟩), (24576, ⟨#[98]⟩), (16384, ⟨#[100]⟩), (8192, ⟨#[99]⟩), (4096, ⟨#[112]⟩)]
def perms9 : List (List (Int × Str)) := [[(256, ⟨#[114]⟩)], [(128, ⟨#[119]⟩)], [(2112, ⟨#[115]⟩), (2048, ⟨#[83]⟩), (64, ⟨#[120]⟩)], [(32, ⟨#[114]⟩)], [(16, ⟨#[119]⟩)], [(1032, ⟨#[115]⟩), (1024, ⟨#[83]⟩), (8, ⟨#[120]⟩)], [(4, ⟨#[114]⟩)], [(2, ⟨#[119]⟩)], [(513, ⟨#[116]⟩), (512, ⟨#[84]⟩), (1, ⟨#[120]⟩)]]
def rowD (t : List (Int × Str)) : D := .tup (t.map fun q => .tup [.int q.1, .str q.2])
def hitM (m : Int) (i : Nat) (b : Int) : Bool := if i = 0 then Builtin.bitAnd m 61440 == b else Builtin.bitAnd m b == b
def signM (m : Int) (i : Nat) (t : List (Int × Str)) : Str := match t.find? fun q => hitM m i q.1 with
  | some q => q.2
  | none => if i = 0 then ⟨#[63]⟩ else ⟨#[45]⟩
def signsM (m : Int) : Nat → List (List (Int × Str)) → List Str
  | _, [] => []
  | i, t :: r => signM m i t :: signsM m (i + 1) r
def modeText (m : Int) : Str := Txt.join ⟨#[]⟩ (signsM m 0 (kinds9 :: perms9))
theorem enum_loop {W : Wd} {n : Nat} {nm : List (Str × NameKind)} {cs : List Str} {t : PySem.Expr} {body : List PySem.Stmt} (m : Int) (J : Nat → List Str → St → Prop)
    (turn : ∀ i tb acc S, i < 1000 → tb.length < 1000 → J i acc S → ∃ S1, bindT nm cs t (.tup [.int i, rowD tb]) S = some S1 ∧ ExQ W n nm cs S1 body .next (J (i + 1) (acc ++ [signM m i tb]))) :
    ∀ (ts : List (List (Int × Str))) (i : Nat) (acc : List Str) (S : St), i + ts.length ≤ 1000 → (∀ tb ∈ ts, tb.length < 1000) → J i acc S →
    ∃ S', FoR W n nm cs t body [] (ts.length + 1) (.items (enumD i (ts.map rowD))) S .next S' ∧ J (i + ts.length) (acc ++ signsM m i ts) S' := by
  intro ts
  induction ts with
  | nil => exact fun i acc S hz hs hJ => ⟨S, .inl ⟨rfl, ex_nil⟩, by simpa [signsM] using hJ⟩
  | cons tb r ih =>
    intro i acc S hz hs hJ
    rw [List.length_cons] at hz
    obtain ⟨S1, h1, S2, h2, h3⟩ := turn i tb acc S (by omega) (hs tb (.head _)) hJ
    obtain ⟨S3, h4, h5⟩ := ih (i + 1) _ S2 (by omega) (fun x h => hs x (.tail _ h)) h3
    refine ⟨S3, .inr ⟨.tup [.int i, rowD tb], .items (enumD (i + 1) (r.map rowD)), S1, .next, S2, rfl, h1, h2, h4⟩, ?_⟩
    rw [show i + (tb :: r).length = i + 1 + r.length by rw [List.length_cons]; omega]
    rw [List.append_assoc] at h5
    exact h5
theorem ex_imp {α : Type} {A B C : α → Prop} (h : ∀ S, B S → C S) (x : ∃ S, A S ∧ B S) : ∃ S, A S ∧ C S := by
  obtain ⟨S, h1, h2⟩ := x
  exact ⟨S, h1, h S h2⟩
end
section
open PySem PySem.W PyProof.Rows PySem.Spec PySem.Calls
set_option maxRecDepth 100000
set_option maxHeartbeats 1000000
def trip (a b : Bool) (c d e : Nat) : Nat := if a && b then c else if a then d else if b then e else 45
def codes (B : Nat → Bool) (k : Nat) : List Nat := [k, cond (B 8) 114 45, cond (B 7) 119 45, trip (B 11) (B 6) 115 83 120, cond (B 5) 114 45, cond (B 4) 119 45, trip (B 10) (B 3) 115 83 120, cond (B 2) 114 45, cond (B 1) 119 45, trip (B 9) (B 0) 116 84 120]
theorem and_pow' (M k : Nat) : M &&& 2 ^ k = if M.testBit k = true then 2 ^ k else 0 := by
  refine Nat.eq_of_testBit_eq fun i => ?_
  rw [Nat.testBit_and, Nat.testBit_two_pow]
  by_cases h : k = i
  · subst h
    cases q : M.testBit k <;> simp [Nat.testBit_two_pow]
  · rw [decide_eq_false h, Bool.and_false]
    split
    · rw [Nat.testBit_two_pow, decide_eq_false h]
    · rw [Nat.zero_testBit]
theorem and_pow (M k : Nat) : (M &&& 2 ^ k == 2 ^ k) = M.testBit k := by
  rw [and_pow']
  have : 0 < 2 ^ k := Nat.two_pow_pos k
  cases M.testBit k with
  | true => simp
  | false => simp; omega
theorem and_two (M : Nat) {a b c : Nat} (h : c = a ||| b) (h0 : a &&& b = 0) : (M &&& c == c) = ((M &&& a == a) && (M &&& b == b)) := by
  subst h
  rw [Nat.and_or_distrib_left, Bool.eq_iff_iff, Bool.and_eq_true, beq_iff_eq, beq_iff_eq, beq_iff_eq]
  constructor
  · intro q
    refine ⟨Nat.eq_of_testBit_eq fun i => ?_, Nat.eq_of_testBit_eq fun i => ?_⟩
    · have q1 := congrArg (fun z => z.testBit i) q
      have q2 := congrArg (fun z => z.testBit i) h0
      simp only [Nat.testBit_or, Nat.testBit_and, Nat.zero_testBit] at q1 q2 ⊢
      cases h1 : M.testBit i <;> cases h2 : a.testBit i <;> cases h3 : b.testBit i <;> simp_all
    · have q1 := congrArg (fun z => z.testBit i) q
      have q2 := congrArg (fun z => z.testBit i) h0
      simp only [Nat.testBit_or, Nat.testBit_and, Nat.zero_testBit] at q1 q2 ⊢
      cases h1 : M.testBit i <;> cases h2 : a.testBit i <;> cases h3 : b.testBit i <;> simp_all
  · rintro ⟨q1, q2⟩; rw [q1, q2]
theorem hit_nat (M i b : Nat) (hi : i ≠ 0) : hitM (M : Int) i (b : Int) = (M &&& b == b) := by
  unfold hitM
  rw [if_neg hi, bitAnd_pp (Int.natCast_nonneg _) (Int.natCast_nonneg _)]
  simp only [Int.toNat_natCast]
  rw [Bool.eq_iff_iff, beq_iff_eq, beq_iff_eq]
  omega
theorem hit1 (M i k : Nat) (hi : i ≠ 0) {b : Int} (hb : b = ((2 ^ k : Nat) : Int)) : hitM (M : Int) i b = M.testBit k := by rw [hb, hit_nat _ _ _ hi, and_pow]
theorem hit2 (M i k l : Nat) (hi : i ≠ 0) {b : Int} (hb : b = ((2 ^ k ||| 2 ^ l : Nat) : Int)) (h0 : 2 ^ k &&& 2 ^ l = 0) : hitM (M : Int) i b = (M.testBit k && M.testBit l) := by
  rw [hb, hit_nat _ _ _ hi, and_two M rfl h0, and_pow, and_pow]
theorem sign1 (M i k : Nat) (hi : i ≠ 0) {b : Int} {c : Nat} (hb : b = ((2 ^ k : Nat) : Int)) : signM (M : Int) i [(b, ⟨#[c]⟩)] = ⟨#[cond (M.testBit k) c 45]⟩ := by
  unfold signM
  rw [List.find?_cons, hit1 M i k hi hb]
  cases M.testBit k with
  | true => rfl
  | false => show (if i = 0 then _ else _) = _; rw [if_neg hi]; rfl
theorem sign3 (M i k l : Nat) (hi : i ≠ 0) {b1 b2 b3 : Int} {c d e : Nat} (h1 : b1 = ((2 ^ k ||| 2 ^ l : Nat) : Int)) (h0 : 2 ^ k &&& 2 ^ l = 0) (h2 : b2 = ((2 ^ k : Nat) : Int)) (h3 : b3 = ((2 ^ l : Nat) : Int)) :
    signM (M : Int) i [(b1, ⟨#[c]⟩), (b2, ⟨#[d]⟩), (b3, ⟨#[e]⟩)] = ⟨#[trip (M.testBit k) (M.testBit l) c d e]⟩ := by
  unfold signM
  rw [List.find?_cons, hit2 M i k l hi h1 h0]
  cases q1 : M.testBit k with
  | true =>
    cases q2 : M.testBit l with
    | true => rfl
    | false =>
      rw [List.find?_cons, hit1 M i k hi h2, q1]
      rfl
  | false =>
    rw [List.find?_cons, hit1 M i k hi h2, q1, List.find?_cons, hit1 M i l hi h3]
    cases q2 : M.testBit l with
    | true => rfl
    | false => show (if i = 0 then _ else _) = _; rw [if_neg hi]; rfl
theorem sign0 (m : Int) : ∃ c, signM m 0 kinds9 = ⟨#[c]⟩ := by
  unfold signM
  split
  · rename_i q hq
    have := List.mem_of_find?_eq_some hq
    have all : ∀ q ∈ kinds9, q.2 = ⟨#[q.2.cps.getD 0 0]⟩ := by decide
    exact ⟨_, all q this⟩
  · exact ⟨63, rfl⟩
theorem text_codes (M : Nat) : ∃ k, modeText (M : Int) = ⟨(codes M.testBit k).toArray⟩ := by
  obtain ⟨k, hk⟩ := sign0 (M : Int)
  refine ⟨k, ?_⟩
  unfold modeText
  show Txt.join ⟨#[]⟩ [signM (M : Int) 0 kinds9, signM (M : Int) 1 [(256, ⟨#[114]⟩)], signM (M : Int) 2 [(128, ⟨#[119]⟩)], signM (M : Int) 3 [(2112, ⟨#[115]⟩), (2048, ⟨#[83]⟩), (64, ⟨#[120]⟩)], signM (M : Int) 4 [(32, ⟨#[114]⟩)], signM (M : Int) 5 [(16, ⟨#[119]⟩)], signM (M : Int) 6 [(1032, ⟨#[115]⟩), (1024, ⟨#[83]⟩), (8, ⟨#[120]⟩)], signM (M : Int) 7 [(4, ⟨#[114]⟩)], signM (M : Int) 8 [(2, ⟨#[119]⟩)], signM (M : Int) 9 [(513, ⟨#[116]⟩), (512, ⟨#[84]⟩), (1, ⟨#[120]⟩)]] = _
  rw [hk, sign1 M 1 8 (by decide) (by decide), sign1 M 2 7 (by decide) (by decide), sign3 M 3 11 6 (by decide) (by decide) (by decide) (by decide) (by decide), sign1 M 4 5 (by decide) (by decide), sign1 M 5 4 (by decide) (by decide), sign3 M 6 10 3 (by decide) (by decide) (by decide) (by decide) (by decide), sign1 M 7 2 (by decide) (by decide), sign1 M 8 1 (by decide) (by decide), sign3 M 9 9 0 (by decide) (by decide) (by decide) (by decide) (by decide)]
  rfl
end
section
open PySem PySem.W PyProof.Rows PySem.Spec PySem.Calls
section
open PySem PySem.W PyProof.Rows PySem.Spec PySem.Calls
set_option maxRecDepth 100000
set_option maxHeartbeats 4000000
theorem fmt_op (W : Wd) [Quiet W] (hK : W.K = hd01.heap_1 W.w.params) (n : Nat) (m : Int) : OpN W (n + 1) (callT (.ref 65)) [.int m] (.int (Builtin.bitAnd m 61440)) := by
  (refine fn_run (o := ?o) (fd := ?fd) (body := ?body) (ps := ?ps) (cs := ?cs) ?ho ?hd ?hcd ?hbody ?hbind ?hclo ?hg ?hb ?hco ?hgen ?hk ?hps ?hnd ?hcs ?hlen ?hpure ?run; (case ho => (rw [‹Wd.K _ = _›]; with_unfolding_all rfl)); (case hd => rfl); (case hcd => (rw [‹Wd.K _ = _›]; with_unfolding_all rfl)); (case hbody | hclo | hg | hb | hco | hgen | hk => rfl))
  case ps => exact ["mode"]
  case cs => exact []
  case hbind => exact hb1 fun a => rfl
  case hps => rfl
  case hnd => decide
  case hcs => decide
  case hlen => rfl
  case hpure => rfl
  case run =>
    clear hK
    dsimp only [List.zip, List.zipWith]
    refine f_ret (d0 := .int (Builtin.bitAnd m 61440)) ?_ rfl
    exact v_bin (v_name (d := .int m) rfl) ev_int rfl
theorem sign_one {m : Int} {i : Nat} {t : List (Int × Str)} (h : ∀ q ∈ t, q.2.length = 1) : (signM m i t).length = 1 := by
  unfold signM
  split
  · rename_i q hq; exact h q (List.mem_of_find?_eq_some hq)
  · split <;> rfl
theorem signs_gen {m : Int} : ∀ (ts : List (List (Int × Str))) (i : Nat), (∀ t ∈ ts, ∀ q ∈ t, q.2.length = 1) → ((signsM m i ts).map (·.length)).sum = ts.length ∧ (signsM m i ts).length = ts.length := by
  intro ts
  induction ts with
  | nil => intro i _; exact ⟨rfl, rfl⟩
  | cons t r ih =>
    intro i h
    obtain ⟨h1, h2⟩ := ih (i + 1) fun t ht => h t (.tail _ ht)
    constructor
    · show (signM m i t).length + ((signsM m (i + 1) r).map (·.length)).sum = _
      rw [h1, sign_one (h t (.head _)), List.length_cons]; omega
    · show (signsM m (i + 1) r).length + 1 = _
      rw [h2]; rfl
theorem signs_sum {m : Int} : ((signsM m 0 (kinds9 :: perms9)).map (·.length)).sum = 10 := (signs_gen (kinds9 :: perms9) 0 (by decide)).1
theorem signs_len {m : Int} : (signsM m 0 (kinds9 :: perms9)).length = 10 := (signs_gen (kinds9 :: perms9) 0 (by decide)).2
theorem hit_find {m : Int} {i : Nat} {tb : List (Int × Str)} : (tb.map fun q => D.tup [.int q.1, .str q.2]).find? (fun d => match d with | .tup [.int b, .str c] => hitM m i b | _ => false) = (tb.find? fun q => hitM m i q.1).map fun q => D.tup [.int q.1, .str q.2] := by
  rw [List.find?_map]
  rfl
/-- what the inner loop leaves -/
def InnT (m : Int) (acc : List Str) (S : St) : Prop := getL "mode" S.vars = some (.int m) ∧ getL "perm" S.vars = some (.own 0) ∧ S.own = [.list (acc.map .str)]
theorem mode_op (W : Wd) [Quiet W] (hK : W.K = hd01.heap_1 W.w.params) (n : Nat) (m : Int) : OpN W (n + 2) (callT (.ref 105)) [.int m] (.str (modeText m)) := by
  have hF : Cal W (n + 1) "S_IFMT" (fun ds => match ds with | [.int m] => some (.int (Builtin.bitAnd m 61440)) | _ => none) := cal_def (by (exact mg_of (Wd.X _) (Wd.g _) (by rw [‹Wd.K _ = _›]; with_unfolding_all rfl))) (by (exact .inr (by rw [‹Wd.K _ = _›]; with_unfolding_all rfl))) fun ds d e => by
    split at e
    · cases e; exact fmt_op W hK n _
    · exact no_some e
  refine fn_okBQ (bl := tupsOf W.K) tups_base (o := ?o) (fd := ?fd) (body := ?body) (ps := ["mode"]) (cs := []) ?ho ?hd ?hcd ?hbody ?hbind ?hclo ?hg ?hb ?hco ?hgen ?hk ?hps (by decide) (fun x hx => nomatch hx) rfl rfl ?run rfl
  case ho => (rw [hK]; with_unfolding_all rfl)
  case hd => rfl
  case hcd => (rw [hK]; with_unfolding_all rfl)
  case hbody => rfl
  case hbind => exact hb1 fun a => rfl
  case hclo => rfl
  case hg => rfl
  case hb => rfl
  case hco => rfl
  case hgen => rfl
  case hk => rfl
  case hps => rfl
  case run =>
    dsimp only [List.zip, List.zipWith]
    refine xb_cons (ex_own (ds := []) rfl .nil (by decide)).toB ?_
    refine xb_forT (a := 98) (ds := (kinds9 :: perms9).map rowD) (k := 11) (J := InnT m (signsM m 0 (kinds9 :: perms9))) rfl (by (exact mg_none_of (Wd.X _) (Wd.g _) (by rw [‹Wd.K _ = _›]; with_unfolding_all rfl))) rfl (by (exact mg_of (Wd.X _) (Wd.g _) (by rw [‹Wd.K _ = _›]; with_unfolding_all rfl))) (by decide) ?rep ?loop ?rest
    case rep =>
      rw [hK]
      repeat first | exact TR.int _ _ | exact TR.str _ _ | exact TRs.nil | refine TRs.cons ?_ ?_ | refine TR.tup (by with_unfolding_all rfl) ?_
    case rest =>
      rintro S ⟨h1, h2, h3⟩
      exact ⟨S, Ex.toB (ex_stop (by simp) (ex_return (ev_join (v_name h2) (fun _ => rfl) rfl (o_r rfl (l := (signsM m 0 (kinds9 :: perms9)).map .str) (by rw [h3]; rfl) (join_d (by decide) (by rw [signs_sum, signs_len]; decide))))))⟩
    case loop =>
      clear hK
      refine ex_imp ?h (enum_loop m (fun i acc S => i = acc.length ∧ InnT m acc S) ?_ (kinds9 :: perms9) 0 [] _ (by decide) (by decide) ⟨rfl, by (first | ((repeat (first | (with_reducible first | exact getL_hit | exact getL_newh | exact getL_here | assumption) | (with_reducible first | refine (getL_miss (by decide)).trans ?_ | refine (getL_new (by decide)).trans ?_ | refine (getL_cap (by rfl)).trans ?_ | refine (getL_next (by decide)).trans ?_) | rfl)); done) | rfl), getL_newh, rfl⟩)
      case h => exact fun S h => h.2
      rintro i tb acc S hlt htb ⟨hi, h1, h2, h3⟩
      refine ⟨_, bT_two rfl rfl, ?_⟩
      have hz : (acc.map D.str).length ≤ 1000000 := by rw [List.length_map]; omega
      refine q_last (q_loop (di := rowD tb) (v_name (by (first | ((repeat (first | (with_reducible first | exact getL_hit | exact getL_newh | exact getL_here | assumption) | (with_reducible first | refine (getL_miss (by decide)).trans ?_ | refine (getL_new (by decide)).trans ?_ | refine (getL_cap (by rfl)).trans ?_ | refine (getL_next (by decide)).trans ?_) | rfl)); done) | rfl))) rfl (ex_imp ?h2 (for_find (P := fun d => ∃ q ∈ tb, d = .tup [.int q.1, .str q.2]) (J := fun S' => getL "mode" S'.vars = some (.int m) ∧ getL "perm" S'.vars = some (.own 0) ∧ getL "index" S'.vars = some (.int i) ∧ S'.own = [.list (acc.map .str)]) (hit := fun d => match d with | .tup [.int b, .str c] => hitM m i b | _ => false)
        (T := fun d S' => ∀ q : Int × Str, d = .tup [.int q.1, .str q.2] → InnT m (acc ++ [q.2]) S') (U := InnT m (acc ++ [if i = 0 then (⟨#[63]⟩ : Str) else ⟨#[45]⟩])) ?turn ?last _ _ ?all ⟨?g1, ?g2, ?g3, h3⟩)))
      case all => exact fun d hd => (by obtain ⟨q, h1, h2⟩ := List.mem_map.mp hd; exact ⟨q, h1, h2.symm⟩)
      case g1 => (first | ((repeat (first | (with_reducible first | exact getL_hit | exact getL_newh | exact getL_here | assumption) | (with_reducible first | refine (getL_miss (by decide)).trans ?_ | refine (getL_new (by decide)).trans ?_ | refine (getL_cap (by rfl)).trans ?_ | refine (getL_next (by decide)).trans ?_) | rfl)); done) | rfl)
      case g2 => (first | ((repeat (first | (with_reducible first | exact getL_hit | exact getL_newh | exact getL_here | assumption) | (with_reducible first | refine (getL_miss (by decide)).trans ?_ | refine (getL_new (by decide)).trans ?_ | refine (getL_cap (by rfl)).trans ?_ | refine (getL_next (by decide)).trans ?_) | rfl)); done) | rfl)
      case g3 => (first | ((repeat (first | (with_reducible first | exact getL_hit | exact getL_newh | exact getL_here | assumption) | (with_reducible first | refine (getL_miss (by decide)).trans ?_ | refine (getL_new (by decide)).trans ?_ | refine (getL_cap (by rfl)).trans ?_ | refine (getL_next (by decide)).trans ?_) | rfl)); done) | rfl)
      case h2 =>
        intro S2 h
        refine ⟨by rw [List.length_append, hi]; rfl, ?_⟩
        rw [hit_find] at h
        unfold signM
        cases hq : tb.find? fun q => hitM m i q.1 with
        | none => rw [hq] at h; exact h
        | some q => rw [hq] at h; exact h q rfl
      case last =>
        rintro S' ⟨k1, k2, k3, k4⟩
        clear hi
        by_cases h0 : i = 0
        · have e0 : ((i : Int) == 0) = true := by rw [h0]; rfl
          refine q_if (b := true) (t_cmp (v_name k3) ev_int (by rw [← e0]; rfl)) ?_
          refine q_one (x_app k2 (by rw [k4]; rfl) ev_str hz) ⟨k1, k2, ?_⟩
          rw [k4, if_pos h0, List.map_append]
          rfl
        · have e0 : ((i : Int) == 0) = false := by rw [beq_eq_false_iff_ne]; omega
          refine q_if (b := false) (t_cmp (v_name k3) ev_int (by rw [← e0]; rfl)) ?_
          refine q_one (x_app k2 (by rw [k4]; rfl) ev_str hz) ⟨k1, k2, ?_⟩
          rw [k4, if_neg h0, List.map_append]
          rfl
      case turn =>
        rintro d S' ⟨q, hq, rfl⟩ ⟨k1, k2, k3, k4⟩
        clear hi
        obtain ⟨bit, ch⟩ := q
        have fin : ∀ q' : Int × Str, D.tup [.int bit, .str ch] = .tup [.int q'.1, .str q'.2] → InnT m (acc ++ [q'.2]) ⟨((S'.set "bit" (.int bit)).set "char" (.str ch)).vars, ((S'.set "bit" (.int bit)).set "char" (.str ch)).own.set 0 (.list (acc.map .str ++ [.str ch]))⟩ := by
          intro q' e
          injection e with e
          injection e with q1 q2
          injection q2 with q2 q3
          injection q2 with q2
          rw [← q2]
          refine ⟨by (first | ((repeat (first | (with_reducible first | exact getL_hit | exact getL_newh | exact getL_here | assumption) | (with_reducible first | refine (getL_miss (by decide)).trans ?_ | refine (getL_new (by decide)).trans ?_ | refine (getL_cap (by rfl)).trans ?_ | refine (getL_next (by decide)).trans ?_) | rfl)); done) | rfl), by (first | ((repeat (first | (with_reducible first | exact getL_hit | exact getL_newh | exact getL_here | assumption) | (with_reducible first | refine (getL_miss (by decide)).trans ?_ | refine (getL_new (by decide)).trans ?_ | refine (getL_cap (by rfl)).trans ?_ | refine (getL_next (by decide)).trans ?_) | rfl)); done) | rfl), ?_⟩
          rw [own_set', own_set', k4, List.map_append]
          rfl
        have nx : getL "mode" ((S'.set "bit" (.int bit)).set "char" (.str ch)).vars = some (.int m) ∧ getL "perm" ((S'.set "bit" (.int bit)).set "char" (.str ch)).vars = some (.own 0) ∧ getL "index" ((S'.set "bit" (.int bit)).set "char" (.str ch)).vars = some (.int i) ∧ ((S'.set "bit" (.int bit)).set "char" (.str ch)).own = [.list (acc.map .str)] := ⟨by (first | ((repeat (first | (with_reducible first | exact getL_hit | exact getL_newh | exact getL_here | assumption) | (with_reducible first | refine (getL_miss (by decide)).trans ?_ | refine (getL_new (by decide)).trans ?_ | refine (getL_cap (by rfl)).trans ?_ | refine (getL_next (by decide)).trans ?_) | rfl)); done) | rfl), by (first | ((repeat (first | (with_reducible first | exact getL_hit | exact getL_newh | exact getL_here | assumption) | (with_reducible first | refine (getL_miss (by decide)).trans ?_ | refine (getL_new (by decide)).trans ?_ | refine (getL_cap (by rfl)).trans ?_ | refine (getL_next (by decide)).trans ?_) | rfl)); done) | rfl), by (first | ((repeat (first | (with_reducible first | exact getL_hit | exact getL_newh | exact getL_here | assumption) | (with_reducible first | refine (getL_miss (by decide)).trans ?_ | refine (getL_new (by decide)).trans ?_ | refine (getL_cap (by rfl)).trans ?_ | refine (getL_next (by decide)).trans ?_) | rfl)); done) | rfl), k4⟩
        refine ⟨_, bT_two rfl rfl, fun hit => ?_, fun hit => ?_⟩
        · by_cases h0 : i = 0
          · have e0 : ((i : Int) == 0) = true := by rw [h0]; rfl
            have e1 : (Builtin.bitAnd m 61440 == bit) = true := by
              have hit : hitM m i bit = true := hit
              unfold hitM at hit
              rwa [if_pos h0] at hit
            refine q_ifF (b := true) (by simp) (t_cmp (v_name nx.2.2.1) ev_int (by rw [← e0]; rfl)) ?_
            refine q_ifF (b := true) (by simp) (t_cmp (v_call hF (v_more (v_name nx.1) .nil) rfl) (v_name (by (first | ((repeat (first | (with_reducible first | exact getL_hit | exact getL_newh | exact getL_here | assumption) | (with_reducible first | refine (getL_miss (by decide)).trans ?_ | refine (getL_new (by decide)).trans ?_ | refine (getL_cap (by rfl)).trans ?_ | refine (getL_next (by decide)).trans ?_) | rfl)); done) | rfl))) (by rw [← e1]; rfl)) ?_
            exact q_cons (x_app nx.2.1 (by rw [nx.2.2.2]; rfl) (v_name (by (first | ((repeat (first | (with_reducible first | exact getL_hit | exact getL_newh | exact getL_here | assumption) | (with_reducible first | refine (getL_miss (by decide)).trans ?_ | refine (getL_new (by decide)).trans ?_ | refine (getL_cap (by rfl)).trans ?_ | refine (getL_next (by decide)).trans ?_) | rfl)); done) | rfl))) hz) (q_brk fin)
          · have e0 : ((i : Int) == 0) = false := by rw [beq_eq_false_iff_ne]; omega
            have e1 : (Builtin.bitAnd m bit == bit) = true := by
              have hit : hitM m i bit = true := hit
              unfold hitM at hit
              rwa [if_neg h0] at hit
            refine q_ifF (b := false) (by simp) (t_cmp (v_name nx.2.2.1) ev_int (by rw [← e0]; rfl)) ?_
            refine q_ifF (b := true) (by simp) (t_cmp (v_bin (v_name nx.1) (v_name (by (first | ((repeat (first | (with_reducible first | exact getL_hit | exact getL_newh | exact getL_here | assumption) | (with_reducible first | refine (getL_miss (by decide)).trans ?_ | refine (getL_new (by decide)).trans ?_ | refine (getL_cap (by rfl)).trans ?_ | refine (getL_next (by decide)).trans ?_) | rfl)); done) | rfl))) rfl) (v_name (by (first | ((repeat (first | (with_reducible first | exact getL_hit | exact getL_newh | exact getL_here | assumption) | (with_reducible first | refine (getL_miss (by decide)).trans ?_ | refine (getL_new (by decide)).trans ?_ | refine (getL_cap (by rfl)).trans ?_ | refine (getL_next (by decide)).trans ?_) | rfl)); done) | rfl))) (by rw [← e1]; rfl)) ?_
            exact q_cons (x_app nx.2.1 (by rw [nx.2.2.2]; rfl) (v_name (by (first | ((repeat (first | (with_reducible first | exact getL_hit | exact getL_newh | exact getL_here | assumption) | (with_reducible first | refine (getL_miss (by decide)).trans ?_ | refine (getL_new (by decide)).trans ?_ | refine (getL_cap (by rfl)).trans ?_ | refine (getL_next (by decide)).trans ?_) | rfl)); done) | rfl))) hz) (q_brk fin)
        · by_cases h0 : i = 0
          · have e0 : ((i : Int) == 0) = true := by rw [h0]; rfl
            have e1 : (Builtin.bitAnd m 61440 == bit) = false := by
              have hit : hitM m i bit = false := hit
              unfold hitM at hit
              rwa [if_pos h0] at hit
            refine q_if (b := true) (t_cmp (v_name nx.2.2.1) ev_int (by rw [← e0]; rfl)) ?_
            exact q_if (b := false) (t_cmp (v_call hF (v_more (v_name nx.1) .nil) rfl) (v_name (by (first | ((repeat (first | (with_reducible first | exact getL_hit | exact getL_newh | exact getL_here | assumption) | (with_reducible first | refine (getL_miss (by decide)).trans ?_ | refine (getL_new (by decide)).trans ?_ | refine (getL_cap (by rfl)).trans ?_ | refine (getL_next (by decide)).trans ?_) | rfl)); done) | rfl))) (by rw [← e1]; rfl)) (q_nil nx)
          · have e0 : ((i : Int) == 0) = false := by rw [beq_eq_false_iff_ne]; omega
            have e1 : (Builtin.bitAnd m bit == bit) = false := by
              have hit : hitM m i bit = false := hit
              unfold hitM at hit
              rwa [if_neg h0] at hit
            refine q_if (b := false) (t_cmp (v_name nx.2.2.1) ev_int (by rw [← e0]; rfl)) ?_
            exact q_if (b := false) (t_cmp (v_bin (v_name nx.1) (v_name (by (first | ((repeat (first | (with_reducible first | exact getL_hit | exact getL_newh | exact getL_here | assumption) | (with_reducible first | refine (getL_miss (by decide)).trans ?_ | refine (getL_new (by decide)).trans ?_ | refine (getL_cap (by rfl)).trans ?_ | refine (getL_next (by decide)).trans ?_) | rfl)); done) | rfl))) rfl) (v_name (by (first | ((repeat (first | (with_reducible first | exact getL_hit | exact getL_newh | exact getL_here | assumption) | (with_reducible first | refine (getL_miss (by decide)).trans ?_ | refine (getL_new (by decide)).trans ?_ | refine (getL_cap (by rfl)).trans ?_ | refine (getL_next (by decide)).trans ?_) | rfl)); done) | rfl))) (by rw [← e1]; rfl)) (q_nil nx)
end
section
open PySem PySem.W PyProof.Rows PySem.Spec PySem.Calls
set_option maxRecDepth 100000
set_option maxHeartbeats 4000000
section
variable {W : Wd} {n : Nat} {nm : List (Str × NameKind)} {cs : List Str} {S : St} {T : St → Prop}
theorem o_atS {x : Str} {i : Int} {j c : Nat} (hf : fits i = true) (hq : seqIndex? i x.length = some j) (hc : x.cps[j]? = some c) : apP S itemP [.str x, .int i] = some (.str ⟨#[c]⟩) := by
  show itemP [.str x, .int i] = _
  unfold itemP itemD
  dsimp only
  unfold fits at hf
  rw [if_pos hf, hq]
  show ((x.cps[j]?).map fun c => D.str ⟨#[c]⟩) = _
  rw [hc]
  rfl
end
theorem fits_nat {i : Nat} (h : i < 2 ^ 62) : fits (i : Int) = true := by unfold fits; rw [Bool.and_eq_true, decide_eq_true_eq, decide_eq_true_eq]; omega
def modeP : List D → Option D
  | [.int m] => some (.str (modeText m))
  | _ => none
theorem mode_ok (W : Wd) [Quiet W] (hK : W.K = hd01.heap_1 W.w.params) (n : Nat) (ds : List D) (d : D) (e : modeP ds = some d) : OpN W (n + 2) (callT (.ref 105)) ds d := by
  unfold modeP at e
  split at e
  · cases e; exact mode_op W hK n _
  · exact no_some e
abbrev intsD (l : List Int) : D := .list (l.map .int)
def filterP : List D → Option D
  | [.list a, .list b] => match intsOf a, intsOf b with
    | some x, some y => if x.length ≤ 1000 then some (intsD (x.filter fun z => !y.contains z)) else none
    | _, _ => none
  | _ => none
theorem filter_d {x y : List Int} (h : x.length ≤ 1000) : filterP [.list (x.map .int), .list (y.map .int)] = some (intsD (x.filter fun z => !y.contains z)) := by
  show (match intsOf (x.map D.int), intsOf (y.map D.int) with | some x, some y => (if x.length ≤ 1000 then some (intsD (x.filter fun z => !y.contains z)) else none) | _, _ => none) = _
  rw [intsOf_map, intsOf_map]
  exact if_pos h
theorem intsOf_eq : ∀ {ds : List D} {ns : List Int}, intsOf ds = some ns → ds = ns.map .int := by
  intro ds
  induction ds with
  | nil => intro ns e; cases e; rfl
  | cons d r ih =>
    intro ns e
    cases d with
    | int i =>
      have e' : (intsOf r).map (fun l => i :: l) = some ns := e
      cases q : intsOf r with
      | none => rw [q] at e'; cases e'
      | some l => rw [q] at e'; cases e'; rw [List.map_cons, ih q]
    | _ => cases e
theorem filter_ok (W : Wd) [Quiet W] (hK : W.K = hd01.heap_1 W.w.params) {p : Program} {loose : List Str} {mean : ExcName → Option Value} {mg mb : Str → Option Value} (T : Top p loose mean mg mb W.base) (n : Nat) (ds : List D) (d : D) (e : filterP ds = some d) : OpN W (n + 4) (callT (.ref 58)) ds d := by
  unfold filterP at e
  split at e
  · rename_i a b
    split at e
    · rename_i x y hx hy
      split at e
      · rename_i hz
        cases e
        rw [intsOf_eq hx, intsOf_eq hy]
        exact filter_op hK T hz
      · cases e
    · cases e
  · cases e
def sldP : List D → Option D
  | [.list a, .list b] => match intsOf a, intsOf b with
    | some x, some y => if decide (x.Pairwise (· < ·)) && decide (y.Pairwise (· < ·)) && decide (x.length ≤ 1000) && decide (y.length ≤ 1000) then some (.tup [intsD (x.filter fun z => !y.contains z), intsD (y.filter fun z => !x.contains z)]) else none
    | _, _ => none
  | _ => none
theorem sld_ok (W : Wd) [Quiet W] (hK : W.K = hd01.heap_1 W.w.params) (hg : W.mg "IndexError" = none) (n : Nat) (ds : List D) (d : D) (e : sldP ds = some d) : OpN W (n + 1) (callT (.ref 112)) ds d := by
  unfold sldP at e
  split at e
  · split at e
    · rename_i x y hx hy
      split at e
      · rename_i hz
        cases e
        rw [Bool.and_eq_true, Bool.and_eq_true, Bool.and_eq_true, decide_eq_true_eq, decide_eq_true_eq, decide_eq_true_eq, decide_eq_true_eq] at hz
        rw [intsOf_eq hx, intsOf_eq hy]
        exact sld W hK hg n x y _ _ hz.1.1.1 hz.1.1.2 hz.1.2 hz.2 rfl rfl
      · exact no_some e
    · exact no_some e
  · exact no_some e
section
variable {W : Wd} {n : Nat} {nm : List (Str × NameKind)} {cs : List Str} {S : St} {k : Nat} {r : List Int}
theorem len_at {l : List D} (h : l.length ≤ 1000000) : lenP [.list l] = some (.int (l.length : Int)) := by
  unfold lenP
  exact if_pos (decide_eq_true h)
theorem ts_one {e : PySem.Expr} {b : Bool} (t : TsU W n nm cs S e b) : TsL W n nm cs S [e] b := by
  cases b with
  | true => exact .inl ⟨t, rfl⟩
  | false => exact .inr ⟨t, rfl⟩
theorem cl_own {elt : PySem.Expr} {g : Comprehension} {j : Nat} {ds : List D} (h : S.own[j]? = some (.list ds)) : ∀ (m i : Nat) (acc acc' : List D), ClR W n nm cs elt m [g] (.items (ds.drop i)) S acc acc' → ClR W n nm cs elt m [g] (.own j i) S acc acc' := by
  intro m
  induction m with
  | zero => exact fun _ _ _ h => h.elim
  | succ m ih =>
    intro i acc acc' c
    have hn : It.next S (.own j i) = match ds[i]? with | some d => some (d, .own j (i + 1)) | none => none := by
      show (match S.own[j]? with | some (.list ds) => (match ds[i]? with | some d => some (d, It.own j (i + 1)) | none => none) | none => none) = _
      rw [h]
    rcases Nat.lt_or_ge i ds.length with hlt | hge
    · rw [List.drop_eq_getElem_cons hlt] at c
      rw [List.getElem?_eq_getElem hlt] at hn
      rcases c with ⟨z, _⟩ | ⟨d, x', S1, b, acc1, z, h1, h2, h3, h4⟩
      · exact no_some z.symm
      · obtain ⟨rfl, rfl⟩ := Prod.mk.inj (Option.some.inj z)
        exact .inr ⟨_, _, S1, b, acc1, hn, h1, h2, ih (i + 1) _ _ h3, h4⟩
    · rw [List.drop_eq_nil_of_le hge] at c
      rw [List.getElem?_eq_none hge] at hn
      rcases c with ⟨_, z⟩ | ⟨d, x', S1, b, acc1, z, _⟩
      · exact .inl ⟨hn, z⟩
      · exact no_some z
theorem c_own [Quiet W] {elt : PySem.Expr} {g : Comprehension} {scope : Scope} {j : Nat} {α : Type} (o : α → D) (f : α → D) (xs : List α) (he : EvD W n nm cs S g.iter (.own j)) (ho : S.own[j]? = some (.list (xs.map o))) (hl : xs.length ≤ 100000) (h1 : okStat scope nm = true) (h2 : FrR S scope.names) (ha : (g.is_async == 0) = true) (hf : ∀ env x, foldedSetIterable g.iter env x = pure x)
    (h : ∀ x ∈ xs, ∃ S1, bindF (relN scope nm) (ownC scope) g.target (o x) (capt scope S) = some S1 ∧ TsL W n (relN scope nm) (ownC scope) S1 g.ifs true ∧ EvD W n (relN scope nm) (ownC scope) S1 elt (f x)) : CmR W n nm cs elt [g] scope S (xs.map f) :=
  ⟨⟨g, [], .own j, .own j 0, xs.length + 1, rfl, he, rfl, compOk_of h1 h2, by
    have := cl1T (W := W) (n := n) (nm := relN scope nm) (cs := ownC scope) (S := capt scope S) (elt := elt) (g := g) o f xs (acc := []) (k := xs.length + 1) (Nat.lt_succ_self _) (by simpa using hl) h
    rw [List.nil_append] at this
    exact cl_own (S := capt scope S) (ds := xs.map o) ho _ 0 _ _ this⟩, by rw [List.all_cons, ha]; rfl, fun g' hg' => by rw [List.mem_singleton.mp hg']; exact hf⟩
end
section
variable {S : St} {a b : Int}
end
theorem div_bit (M e : Nat) : ((M : Int).fdiv ((2 : Int) ^ e)).fmod 2 = ((M / 2 ^ e % 2 : Nat) : Int) := by
  have h1 : (2 : Int) ^ e = ((2 ^ e : Nat) : Int) := by push_cast; rfl
  rw [h1, Int.fdiv_eq_ediv_of_nonneg _ (Int.natCast_nonneg _), Int.fmod_eq_emod_of_nonneg _ (by decide)]
  push_cast
  rfl
/-- loops over items that may give back -/
theorem f_forX {W : Wd} [Quiet W] {n : Nat} {nm : List (Str × NameKind)} {cs : List Str} {S : St} {t iter : PySem.Expr} {body rest : List PySem.Stmt} {pos : Pos} {di d : D} {xs : List D} (v : EvD W n nm cs S iter di) (hx : iterP di = some (.items xs)) (J : List D → St → Prop) (h0 : J xs S)
    (step : ∀ d' ds S, J (d' :: ds) S → ∃ S1, bindT nm cs t d' S = some S1 ∧ (ExQ W n nm cs S1 body .next (J ds) ∨ FnR W n nm cs S1 body d)) (fin : ∀ S, J [] S → FnR W n nm cs S rest d) (hs : ∀ env x, foldedSetIterable iter env x = pure x := by exact fun _ _ => rfl) : FnR W n nm cs S (.For t iter body [] pos :: rest) d := by
  have key : ∀ (xs : List D) (S : St), J xs S → (∃ S', FoR W n nm cs t body [] (xs.length + 1) (.items xs) S .next S' ∧ J [] S') ∨ ∃ d0 S', FoR W n nm cs t body [] (xs.length + 1) (.items xs) S (.ret d0) S' ∧ retP S' d0 = some d := by
    intro xs
    induction xs with
    | nil => exact fun S h => .inl ⟨S, .inl ⟨rfl, ex_nil⟩, h⟩
    | cons d' ds ih =>
      intro S h
      obtain ⟨S1, h1, h2 | h2⟩ := step d' ds S h
      · obtain ⟨S2, h2, h3⟩ := h2
        rcases ih S2 h3 with ⟨S3, h4, h5⟩ | ⟨d0, S3, h4, h5⟩
        · exact .inl ⟨S3, .inr ⟨d', .items ds, S1, .next, S2, rfl, h1, h2, h4⟩, h5⟩
        · exact .inr ⟨d0, S3, .inr ⟨d', .items ds, S1, .next, S2, rfl, h1, h2, h4⟩, h5⟩
      · obtain ⟨d0, S2, h2, h3⟩ := h2
        exact .inr ⟨d0, S2, .inr ⟨d', .items ds, S1, .ret d0, S2, rfl, h1, h2, rfl, rfl⟩, h3⟩
  rcases key xs S h0 with ⟨S', h1, h2⟩ | ⟨d0, S', h1, h2⟩
  · exact f_cons (ex_forR v hx h1 hs) (fin S' h2)
  · exact ⟨d0, S', ex_stop (by simp) (ex_forR v hx h1 hs), h2⟩
/-- a def of the law's own, called -/
def Glo (W : Wd) (x : Str) (a : Addr) : Prop := W.mg x = some (.ref a) ∧ Keepy W (.ref a)
theorem v_op {W : Wd} {n : Nat} {nm : List (Str × NameKind)} {cs : List Str} {S : St} {x : Str} {a : Addr} {p pos : Pos} {e : PySem.Expr} {es : List PySem.Expr} {ds : List D} {d : D} (g : Glo W x a) (h : OpN W n (callT (.ref a)) ds d) (hx : EvL W n nm cs S (e :: es) ds) (ho : ds.any D.isOwn = false := by rfl) (hk : nm.lookup x = some .globalImplicit := by rfl) (h1 : (x == ("__debug__" : Str)) = false := by decide) : EvD W n nm cs S (.Call (.Name x p) (e :: es) [] pos) d := by
  obtain ⟨f, hC, hg⟩ := cal_op g.1 g.2 h
  exact v_call hC hx (ap_no hg ho) hk h1
/-- rows and tables -/
def row4 (a b c d : Bool) : List Int := (if a then [0] else []) ++ ((if b then [1] else []) ++ ((if c then [2] else []) ++ if d then [3] else []))
def row (r : Nat → Bool) : List Int := row4 (r 0) (r 1) (r 2) (r 3)
abbrev rwD (r : Nat → Bool) : D := intsD (row r)
abbrev tabD (R : Nat → Nat → Bool) : D := .list (([0, 1, 2, 3] : List Nat).map fun i => rwD (R i))
theorem row_len (r : Nat → Bool) : (row r).length ≤ 4 := by
  unfold row row4
  cases r 0 <;> cases r 1 <;> cases r 2 <;> cases r 3 <;> decide
theorem row_mem (r : Nat → Bool) {j : Nat} (hj : j < 4) : (row r).contains (j : Int) = r j := by
  have key : ∀ a b c d : Bool, ∀ k : Fin 4, (row4 a b c d).contains (k.val : Int) = (match k with | 0 => a | 1 => b | 2 => c | 3 => d) := by decide
  unfold row
  rw [key (r 0) (r 1) (r 2) (r 3) ⟨j, hj⟩]
  match j, hj with
  | 0, _ => rfl
  | 1, _ => rfl
  | 2, _ => rfl
  | 3, _ => rfl
theorem row_in (r : Nat → Bool) {x : Int} (h : x ∈ row r) : ∃ j : Nat, j < 4 ∧ x = (j : Int) ∧ r j = true := by
  have key : ∀ a b c d : Bool, ∀ x ∈ row4 a b c d, (x = 0 ∧ a = true) ∨ (x = 1 ∧ b = true) ∨ (x = 2 ∧ c = true) ∨ (x = 3 ∧ d = true) := by decide
  rcases key _ _ _ _ x h with ⟨rfl, q⟩ | ⟨rfl, q⟩ | ⟨rfl, q⟩ | ⟨rfl, q⟩
  · exact ⟨0, by decide, rfl, q⟩
  · exact ⟨1, by decide, rfl, q⟩
  · exact ⟨2, by decide, rfl, q⟩
  · exact ⟨3, by decide, rfl, q⟩
theorem row_rest (r : Nat → Bool) : ([0, 1, 2, 3] : List Int).filter (fun z => !(row r).contains z) = row fun j => !r j := by
  have key : ∀ a b c d : Bool, ([0, 1, 2, 3] : List Int).filter (fun z => !(row4 a b c d).contains z) = row4 (!a) (!b) (!c) (!d) := by decide
  exact key _ _ _ _
theorem row_of (f : Nat → Bool) : ((([0, 1, 2, 3] : List Nat).filter f).map fun (k : Nat) => (k : Int)) = row f := by
  unfold row row4
  simp only [List.filter_cons, List.filter_nil]
  cases f 0 <;> cases f 1 <;> cases f 2 <;> cases f 3 <;> rfl
theorem tab_at (R : Nat → Nat → Bool) {i : Nat} (hi : i < 4) {S : St} : apP S itemP [tabD R, .int (i : Int)] = some (rwD (R i)) := by
  refine o_at (j := i) (fits_nat (by omega)) ?_ ?_
  · exact seqIndex_nat (by simpa using hi)
  · match i, hi with
    | 0, _ => rfl
    | 1, _ => rfl
    | 2, _ => rfl
    | 3, _ => rfl
theorem tab_pure (R : Nat → Nat → Bool) (q : Nat) : pureP (q + 2) (tabD R) = true := by
  show (([0, 1, 2, 3] : List Nat).map fun i => rwD (R i)).all (pureP (q + 1)) = true
  rw [List.all_map, List.all_eq_true]
  intro x _
  exact pure_ints q
end
section
open PySem PySem.W PyProof.Rows PySem.Spec PySem.Calls
set_option maxRecDepth 100000
set_option maxHeartbeats 4000000
section
variable {p : Program} {loose : List Str} {mean : ExcName → Option Value} {mg mb : Str → Option Value}
theorem int_pure (q : Nat) (l : List Int) : pureP (q + 1) (intsD l) = true := pure_ints q
theorem exch_op (W : Wd) [Quiet W] (hK : W.K = hd01.heap_1 W.w.params) (n : Nat) (R : Nat → Nat → Bool) : OpN W (n + 2) (callT (.ref 122)) [tabD R] (tabD fun j i => R i j) := by
  have hR : Cal W (n + 1) "range" rangeP := cal_range (by (exact mg_none_of (Wd.X _) (Wd.g _) (by rw [‹Wd.K _ = _›]; with_unfolding_all rfl)))
  (refine fn_run (o := ?o) (fd := ?fd) (body := ?body) (ps := ?ps) (cs := ?cs) ?ho ?hd ?hcd ?hbody ?hbind ?hclo ?hg ?hb ?hco ?hgen ?hk ?hps ?hnd ?hcs ?hlen ?hpure ?run; (case ho => (rw [‹Wd.K _ = _›]; with_unfolding_all rfl)); (case hd => rfl); (case hcd => (rw [‹Wd.K _ = _›]; with_unfolding_all rfl)); (case hbody | hclo | hg | hb | hco | hgen | hk => rfl))
  case ps => exact ["table"]
  case cs => exact ["table"]
  case hbind => exact hb1 fun a => rfl
  case hps => rfl
  case hnd => decide
  case hcs => (intro x hx; rw [List.mem_singleton.mp hx]; rfl)
  case hlen => rfl
  case hpure => (show (pureP 6 (tabD R) && true) = true; rw [tab_pure R 4]; rfl)
  case run =>
    clear hK
    dsimp only [List.zip, List.zipWith]
    refine f_ret (d0 := tabD fun j i => R i j) (ev_comp (c_oneT (fun (k : Nat) => D.int (k : Int)) (fun j => rwD fun i => R i j) [0, 1, 2, 3] (v_call hR (v_more ev_int .nil) rfl) rfl (by simp) rfl (by (repeat' (first | exact fr_nil | refine fr_free (by (first | ((repeat (first | (with_reducible first | exact getL_hit | exact getL_newh | exact getL_here | assumption) | (with_reducible first | refine (getL_miss (by decide)).trans ?_ | refine (getL_new (by decide)).trans ?_ | refine (getL_cap (by rfl)).trans ?_ | refine (getL_next (by decide)).trans ?_) | rfl)); done) | rfl)) ?_ | refine fr_local ?_ | refine fr_cell ?_ | refine fr_gi ?_))) rfl (fun _ _ => rfl) fun j hj => ?_)) (ret_pure (tab_pure _ 4))
    have hj4 : j < 4 := by revert hj; revert j; decide
    refine ⟨_, bF_name (by (repeat (first | exact getL_capn (by rfl) | refine (getL_miss (by decide)).trans ?_ | refine (getL_cap (by rfl)).trans ?_))), rfl, ?_⟩
    have hrow := row_of fun i => R i j
    rw [show rwD (fun i => R i j) = .list (((([0, 1, 2, 3] : List Nat).filter fun i => R i j).map fun (k : Nat) => D.int (k : Int))) by rw [show rwD (fun i => R i j) = intsD (row fun i => R i j) from rfl, ← hrow, intsD, List.map_map]; rfl]
    refine ev_comp (c_one (fun (k : Nat) => D.int (k : Int)) (fun (k : Nat) => D.int (k : Int)) (fun i => R i j) [0, 1, 2, 3] (v_call hR (v_more ev_int .nil) rfl) rfl (by simp) rfl (by (repeat' (first | exact fr_nil | refine fr_free (by (first | ((repeat (first | (with_reducible first | exact getL_hit | exact getL_newh | exact getL_here | assumption) | (with_reducible first | refine (getL_miss (by decide)).trans ?_ | refine (getL_new (by decide)).trans ?_ | refine (getL_cap (by rfl)).trans ?_ | refine (getL_next (by decide)).trans ?_) | rfl)); done) | rfl)) ?_ | refine fr_local ?_ | refine fr_cell ?_ | refine fr_gi ?_))) rfl (fun _ _ => rfl) fun i hi => ?_)
    have hi4 : i < 4 := by revert hi; revert i; decide
    refine ⟨_, bF_name (by (repeat (first | exact getL_capn (by rfl) | refine (getL_miss (by decide)).trans ?_ | refine (getL_cap (by rfl)).trans ?_))), ts_one (t_cmp (v_name (by (first | ((repeat (first | (with_reducible first | exact getL_hit | exact getL_newh | exact getL_here | assumption) | (with_reducible first | refine (getL_miss (by decide)).trans ?_ | refine (getL_new (by decide)).trans ?_ | refine (getL_cap (by rfl)).trans ?_ | refine (getL_next (by decide)).trans ?_) | rfl)); done) | rfl))) (v_item (v_name (by (first | ((repeat (first | (with_reducible first | exact getL_hit | exact getL_newh | exact getL_here | assumption) | (with_reducible first | refine (getL_miss (by decide)).trans ?_ | refine (getL_new (by decide)).trans ?_ | refine (getL_cap (by rfl)).trans ?_ | refine (getL_next (by decide)).trans ?_) | rfl)); done) | rfl))) (v_name (by (first | ((repeat (first | (with_reducible first | exact getL_hit | exact getL_newh | exact getL_here | assumption) | (with_reducible first | refine (getL_miss (by decide)).trans ?_ | refine (getL_new (by decide)).trans ?_ | refine (getL_cap (by rfl)).trans ?_ | refine (getL_next (by decide)).trans ?_) | rfl)); done) | rfl))) (tab_at R hi4)) (o_in (by rw [inP_ints, row_mem _ hj4]))), fun _ => v_name (by (first | ((repeat (first | (with_reducible first | exact getL_hit | exact getL_newh | exact getL_here | assumption) | (with_reducible first | refine (getL_miss (by decide)).trans ?_ | refine (getL_new (by decide)).trans ?_ | refine (getL_cap (by rfl)).trans ?_ | refine (getL_next (by decide)).trans ?_) | rfl)); done) | rfl))⟩
theorem rest_op (W : Wd) [Quiet W] (hK : W.K = hd01.heap_1 W.w.params) (T : Top p loose mean mg mb W.base) (n : Nat) (R : Nat → Nat → Bool) : OpN W (n + 5) (callT (.ref 127)) [tabD R] (tabD fun i j => !R i j) := by
  have hF : Cal W (n + 4) "_filter" filterP := cal_def (by (exact mg_of (Wd.X _) (Wd.g _) (by rw [‹Wd.K _ = _›]; with_unfolding_all rfl))) (by (exact .inr (by rw [‹Wd.K _ = _›]; with_unfolding_all rfl))) (filter_ok W hK T n)
  (refine fn_run (o := ?o) (fd := ?fd) (body := ?body) (ps := ?ps) (cs := ?cs) ?ho ?hd ?hcd ?hbody ?hbind ?hclo ?hg ?hb ?hco ?hgen ?hk ?hps ?hnd ?hcs ?hlen ?hpure ?run; (case ho => (rw [‹Wd.K _ = _›]; with_unfolding_all rfl)); (case hd => rfl); (case hcd => (rw [‹Wd.K _ = _›]; with_unfolding_all rfl)); (case hbody | hclo | hg | hb | hco | hgen | hk => rfl))
  case ps => exact ["table"]
  case cs => exact []
  case hbind => exact hb1 fun a => rfl
  case hps => rfl
  case hnd => decide
  case hcs => decide
  case hlen => rfl
  case hpure => (show (pureP 6 (tabD R) && true) = true; rw [tab_pure R 4]; rfl)
  case run =>
    clear hK
    dsimp only [List.zip, List.zipWith]
    refine f_ret (d0 := tabD fun i j => !R i j) (ev_comp (c_oneT (fun i => rwD (R i)) (fun i => rwD fun j => !R i j) [0, 1, 2, 3] (v_name (by (first | ((repeat (first | (with_reducible first | exact getL_hit | exact getL_newh | exact getL_here | assumption) | (with_reducible first | refine (getL_miss (by decide)).trans ?_ | refine (getL_new (by decide)).trans ?_ | refine (getL_cap (by rfl)).trans ?_ | refine (getL_next (by decide)).trans ?_) | rfl)); done) | rfl))) rfl (by simp) rfl (by (repeat' (first | exact fr_nil | refine fr_free (by (first | ((repeat (first | (with_reducible first | exact getL_hit | exact getL_newh | exact getL_here | assumption) | (with_reducible first | refine (getL_miss (by decide)).trans ?_ | refine (getL_new (by decide)).trans ?_ | refine (getL_cap (by rfl)).trans ?_ | refine (getL_next (by decide)).trans ?_) | rfl)); done) | rfl)) ?_ | refine fr_local ?_ | refine fr_cell ?_ | refine fr_gi ?_))) rfl (fun _ _ => rfl) fun i hi => ?_)) (ret_pure (tab_pure _ 4))
    refine ⟨_, bF_name (by (repeat (first | exact getL_capn (by rfl) | refine (getL_miss (by decide)).trans ?_ | refine (getL_cap (by rfl)).trans ?_))), rfl, ?_⟩
    rw [show rwD (fun j => !R i j) = intsD (row fun j => !R i j) from rfl, ← row_rest (R i)]
    exact v_call hF (v_more (v_list (v_more ev_int (v_more ev_int (v_more ev_int (v_more ev_int .nil))))) (v_more (v_name (by (first | ((repeat (first | (with_reducible first | exact getL_hit | exact getL_newh | exact getL_here | assumption) | (with_reducible first | refine (getL_miss (by decide)).trans ?_ | refine (getL_new (by decide)).trans ?_ | refine (getL_cap (by rfl)).trans ?_ | refine (getL_next (by decide)).trans ?_) | rfl)); done) | rfl))) .nil)) (ap_no (filter_d (x := [0, 1, 2, 3]) (by decide)))
end
end
section
open PySem PySem.W PyProof.Rows PySem.Spec PySem.Calls
set_option maxRecDepth 100000
set_option maxHeartbeats 4000000
section
variable {W : Wd} {n : Nat} {nm : List (Str × NameKind)} {cs : List Str} {S S' S₁ : St} {F : Flo} {T : St → Prop} {d : D}
theorem cal_sorted [Quiet W] (h : W.mg "sorted" = none) : Cal W n "sorted" sortedP := ⟨_, .inr ⟨h, boot_sorted, by decide⟩, .inl (fun a z => (nomatch z)), fun ds d e => sorted_ok ds d e⟩
theorem items_step (o : Nat → D) (N r : Nat) (h : r < N) : (List.range' r (N - r)).map o = o r :: (List.range' (r + 1) (N - (r + 1))).map o := by
  obtain ⟨m, hm⟩ : ∃ m, N - r = m + 1 := ⟨N - r - 1, by omega⟩
  rw [hm, List.range'_succ, List.map_cons, show N - (r + 1) = m by omega]
theorem f_cntX [Quiet W] {t iter : PySem.Expr} {body rest : List PySem.Stmt} {pos : Pos} {di : D} (N : Nat) (o : Nat → D) (J : Nat → St → Prop) (v : EvD W n nm cs S iter di) (hx : iterP di = some (.items ((List.range N).map o))) (h0 : J 0 S)
    (step : ∀ r S, r < N → J r S → ∃ S1, bindT nm cs t (o r) S = some S1 ∧ (ExQ W n nm cs S1 body .next (J (r + 1)) ∨ FnR W n nm cs S1 body d)) (fin : ∀ S, J N S → FnR W n nm cs S rest d) (hs : ∀ env x, foldedSetIterable iter env x = pure x := by exact fun _ _ => rfl) : FnR W n nm cs S (.For t iter body [] pos :: rest) d := by
  refine f_forX v hx (fun ds S => ∃ r, r ≤ N ∧ ds = (List.range' r (N - r)).map o ∧ J r S) ⟨0, Nat.zero_le _, by rw [List.range_eq_range']; rfl, h0⟩ (fun d' ds S ⟨r, h2, h3, h4⟩ => ?_) (fun S ⟨r, h2, h3, h4⟩ => ?_) hs
  · by_cases h : r < N
    · rw [items_step o N r h] at h3
      obtain ⟨rfl, rfl⟩ := List.cons.inj h3
      obtain ⟨S1, h5, h6 | h6⟩ := step r S h h4
      · obtain ⟨S2, h6, h7⟩ := h6
        exact ⟨S1, h5, .inl ⟨S2, h6, r + 1, h, rfl, h7⟩⟩
      · exact ⟨S1, h5, .inr h6⟩
    · rw [show N - r = 0 by omega] at h3
      cases h3
  · have : r = N := by
      by_cases h : r < N
      · rw [items_step o N r h] at h3; cases h3
      · omega
    exact fin S (this ▸ h4)
theorem q_cnt [Quiet W] {t iter : PySem.Expr} {body : List PySem.Stmt} {pos : Pos} {di : D} (N : Nat) (o : Nat → D) (J : Nat → St → Prop) (v : EvD W n nm cs S iter di) (hx : iterP di = some (.items ((List.range N).map o))) (h0 : J 0 S)
    (step : ∀ r S, r < N → J r S → ∃ S1, bindT nm cs t (o r) S = some S1 ∧ ExQ W n nm cs S1 body .next (J (r + 1))) (hs : ∀ env x, foldedSetIterable iter env x = pure x := by exact fun _ _ => rfl) : ∃ S', Ex W n nm cs S (exec (.For t iter body [] pos)) .next S' ∧ J N S' := by
  obtain ⟨S', h1, r, h2, h3, h4⟩ := q_for (pos := pos) v hx (fun ds S => ∃ r, r ≤ N ∧ ds = (List.range' r (N - r)).map o ∧ J r S) ⟨0, Nat.zero_le _, by rw [List.range_eq_range']; rfl, h0⟩ (fun d ds S ⟨r, h2, h3, h4⟩ => by
    by_cases h : r < N
    · rw [items_step o N r h] at h3
      obtain ⟨rfl, rfl⟩ := List.cons.inj h3
      obtain ⟨S1, h5, S2, h6, h7⟩ := step r S h h4
      exact ⟨S1, h5, S2, h6, r + 1, h, rfl, h7⟩
    · rw [show N - r = 0 by omega] at h3
      cases h3) hs
  refine ⟨S', h1, ?_⟩
  have : r = N := by
    by_cases h : r < N
    · rw [items_step o N r h] at h3; cases h3
    · omega
  rw [← this]
  exact h4
theorem x_if {test : PySem.Expr} {body : List PySem.Stmt} {pos : Pos} {b : Bool} (t : TsU W n nm cs S test b) (y : b = true → FnR W n nm cs S body d) (z : b = false → T S) : ExQ W n nm cs S [.If test body [] pos] .next T ∨ FnR W n nm cs S [.If test body [] pos] d := by
  cases b with
  | true => exact .inr (f_if t y fun q => by cases q)
  | false => exact .inl (q_if t (q_nil (z rfl)))
end
def all4 (p : Nat → Bool) : Bool := p 0 && (p 1 && (p 2 && p 3))
def any4 (p : Nat → Bool) : Bool := p 0 || (p 1 || (p 2 || p 3))
theorem all4_iff {p : Nat → Bool} : all4 p = true ↔ ∀ i, i < 4 → p i = true := by
  unfold all4
  simp only [Bool.and_eq_true]
  constructor
  · rintro ⟨h0, h1, h2, h3⟩ i hi
    match i, hi with
    | 0, _ => exact h0
    | 1, _ => exact h1
    | 2, _ => exact h2
    | 3, _ => exact h3
  · intro h
    exact ⟨h 0 (by decide), h 1 (by decide), h 2 (by decide), h 3 (by decide)⟩
theorem any4_iff {p : Nat → Bool} : any4 p = true ↔ ∃ i, i < 4 ∧ p i = true := by
  unfold any4
  simp only [Bool.or_eq_true]
  constructor
  · rintro (h | h | h | h)
    · exact ⟨0, by decide, h⟩
    · exact ⟨1, by decide, h⟩
    · exact ⟨2, by decide, h⟩
    · exact ⟨3, by decide, h⟩
  · rintro ⟨i, hi, h⟩
    match i, hi with
    | 0, _ => exact .inl h
    | 1, _ => exact .inr (.inl h)
    | 2, _ => exact .inr (.inr (.inl h))
    | 3, _ => exact .inr (.inr (.inr h))
def subB (a b : Nat → Bool) : Bool := all4 fun j => !a j || b j
def withinB (A B : Nat → Nat → Bool) : Bool := all4 fun i => subB (A i) (B i)
theorem row_sub (a b : Nat → Bool) : (((row a).filter fun z => !(row b).contains z) == []) = subB a b := by
  have key : ∀ a b c d e f g h : Bool, (((row4 a b c d).filter fun z => !(row4 e f g h).contains z) == []) = ((!a || e) && ((!b || f) && ((!c || g) && (!d || h)))) := by decide
  exact key _ _ _ _ _ _ _ _
theorem row_rise (a : Nat → Bool) : (row a).Pairwise (· < ·) := by
  have key : ∀ a b c d : Bool, (row4 a b c d).Pairwise (· < ·) := by decide
  exact key _ _ _ _
theorem sld_row (a b : Nat → Bool) : sldP [rwD a, rwD b] = some (D.tup [intsD ((row a).filter fun z => !(row b).contains z), intsD ((row b).filter fun z => !(row a).contains z)]) := by
  have ha := row_len a
  have hb := row_len b
  show (match intsOf ((row a).map D.int), intsOf ((row b).map D.int) with
    | some x, some y => if decide (x.Pairwise (· < ·)) && decide (y.Pairwise (· < ·)) && decide (x.length ≤ 1000) && decide (y.length ≤ 1000) then some (D.tup [intsD (x.filter fun z => !y.contains z), intsD (y.filter fun z => !x.contains z)]) else none
    | _, _ => none) = _
  rw [intsOf_map, intsOf_map]
  dsimp only
  rw [decide_eq_true (row_rise a), decide_eq_true (row_rise b), decide_eq_true (show (row a).length ≤ 1000 by omega), decide_eq_true (show (row b).length ≤ 1000 by omega)]
  rfl
theorem within_op (W : Wd) [Quiet W] (hK : W.K = hd01.heap_1 W.w.params) (n : Nat) (A B : Nat → Nat → Bool) : OpN W (n + 2) (callT (.ref 141)) [tabD A, tabD B] (.bool (withinB A B)) := by
  have hR : Cal W (n + 1) "range" rangeP := cal_range (by (exact mg_none_of (Wd.X _) (Wd.g _) (by rw [‹Wd.K _ = _›]; with_unfolding_all rfl)))
  have hS : Cal W (n + 1) "sorted_list_difference" sldP := cal_def (by (exact mg_of (Wd.X _) (Wd.g _) (by rw [‹Wd.K _ = _›]; with_unfolding_all rfl))) (by (exact .inr (by rw [‹Wd.K _ = _›]; with_unfolding_all rfl))) (sld_ok W hK (by (exact mg_none_of (Wd.X _) (Wd.g _) (by rw [‹Wd.K _ = _›]; with_unfolding_all rfl))) n)
  (refine fn_run (o := ?o) (fd := ?fd) (body := ?body) (ps := ?ps) (cs := ?cs) ?ho ?hd ?hcd ?hbody ?hbind ?hclo ?hg ?hb ?hco ?hgen ?hk ?hps ?hnd ?hcs ?hlen ?hpure ?run; (case ho => (rw [‹Wd.K _ = _›]; with_unfolding_all rfl)); (case hd => rfl); (case hcd => (rw [‹Wd.K _ = _›]; with_unfolding_all rfl)); (case hbody | hclo | hg | hb | hco | hgen | hk => rfl))
  case ps => exact ["one", "two"]
  case cs => exact []
  case hbind => exact hb2 fun a b => rfl
  case hps => rfl
  case hnd => decide
  case hcs => decide
  case hlen => rfl
  case hpure => (show (pureP 6 (tabD A) && (pureP 6 (tabD B) && true)) = true; rw [tab_pure A 4, tab_pure B 4]; rfl)
  case run =>
    clear hK
    dsimp only [List.zip, List.zipWith]
    refine f_cntX 4 (fun (k : Nat) => D.int (k : Int)) (fun r S => getL "one" S.vars = some (tabD A) ∧ getL "two" S.vars = some (tabD B) ∧ ∀ i, i < r → subB (A i) (B i) = true) (v_call hR (v_more ev_int .nil) rfl) rfl ⟨by (first | ((repeat (first | (with_reducible first | exact getL_hit | exact getL_newh | exact getL_here | assumption) | (with_reducible first | refine (getL_miss (by decide)).trans ?_ | refine (getL_new (by decide)).trans ?_ | refine (getL_cap (by rfl)).trans ?_ | refine (getL_next (by decide)).trans ?_) | rfl)); done) | rfl), by (first | ((repeat (first | (with_reducible first | exact getL_hit | exact getL_newh | exact getL_here | assumption) | (with_reducible first | refine (getL_miss (by decide)).trans ?_ | refine (getL_new (by decide)).trans ?_ | refine (getL_cap (by rfl)).trans ?_ | refine (getL_next (by decide)).trans ?_) | rfl)); done) | rfl), fun i h => absurd h (Nat.not_lt_zero _)⟩ ?step ?fin
    case fin =>
      rintro S ⟨h1, h2, h3⟩
      rw [show withinB A B = true from all4_iff.mpr h3]
      exact f_ret ev_bool rfl
    case step =>
      rintro r S hr ⟨h1, h2, h3⟩
      refine ⟨_, bT_name, ?_⟩
      refine x_if (b := !subB (A r) (B r)) (t_cmp (v_item (v_call hS (v_more (v_item (v_name (by (first | ((repeat (first | (with_reducible first | exact getL_hit | exact getL_newh | exact getL_here | assumption) | (with_reducible first | refine (getL_miss (by decide)).trans ?_ | refine (getL_new (by decide)).trans ?_ | refine (getL_cap (by rfl)).trans ?_ | refine (getL_next (by decide)).trans ?_) | rfl)); done) | rfl))) (v_name (by (first | ((repeat (first | (with_reducible first | exact getL_hit | exact getL_newh | exact getL_here | assumption) | (with_reducible first | refine (getL_miss (by decide)).trans ?_ | refine (getL_new (by decide)).trans ?_ | refine (getL_cap (by rfl)).trans ?_ | refine (getL_next (by decide)).trans ?_) | rfl)); done) | rfl))) (tab_at A hr)) (v_more (v_item (v_name (by (first | ((repeat (first | (with_reducible first | exact getL_hit | exact getL_newh | exact getL_here | assumption) | (with_reducible first | refine (getL_miss (by decide)).trans ?_ | refine (getL_new (by decide)).trans ?_ | refine (getL_cap (by rfl)).trans ?_ | refine (getL_next (by decide)).trans ?_) | rfl)); done) | rfl))) (v_name (by (first | ((repeat (first | (with_reducible first | exact getL_hit | exact getL_newh | exact getL_here | assumption) | (with_reducible first | refine (getL_miss (by decide)).trans ?_ | refine (getL_new (by decide)).trans ?_ | refine (getL_cap (by rfl)).trans ?_ | refine (getL_next (by decide)).trans ?_) | rfl)); done) | rfl))) (tab_at B hr)) .nil)) (ap_no (sld_row _ _))) ev_int (o_atT rfl rfl rfl)) (v_list .nil) (o_nel (by rw [← row_sub]; exact eqP_ints (ms := []) 3))) (fun hb => ?_) fun hb => ⟨by (first | ((repeat (first | (with_reducible first | exact getL_hit | exact getL_newh | exact getL_here | assumption) | (with_reducible first | refine (getL_miss (by decide)).trans ?_ | refine (getL_new (by decide)).trans ?_ | refine (getL_cap (by rfl)).trans ?_ | refine (getL_next (by decide)).trans ?_) | rfl)); done) | rfl), by (first | ((repeat (first | (with_reducible first | exact getL_hit | exact getL_newh | exact getL_here | assumption) | (with_reducible first | refine (getL_miss (by decide)).trans ?_ | refine (getL_new (by decide)).trans ?_ | refine (getL_cap (by rfl)).trans ?_ | refine (getL_next (by decide)).trans ?_) | rfl)); done) | rfl), fun i hi => ?_⟩
      · have hw : withinB A B = false := by
          rw [Bool.eq_false_iff]
          intro q
          have := all4_iff.mp q r hr
          rw [this] at hb
          cases hb
        rw [hw]
        exact f_ret ev_bool rfl
      · by_cases q : i = r
        · rw [q]; simpa using hb
        · exact h3 i (by omega)
end
section
open PySem PySem.W PyProof.Rows PySem.Spec PySem.Calls
set_option maxRecDepth 100000
set_option maxHeartbeats 4000000
section
variable {p : Program} {loose : List Str} {mean : ExcName → Option Value} {mg mb : Str → Option Value}
/-- what is found, column numbers put together -/
def addF (B : Nat → Nat → Bool) (f : List Int) (j : Int) : List Int := f ++ (row (B j.toNat)).filter fun z => !f.contains z
structure FnP (f : List Int) : Prop where
  nd : f.Nodup
  rg : ∀ x ∈ f, ∃ j : Nat, j < 4 ∧ x = (j : Int)
theorem row_nodup (a : Nat → Bool) : (row a).Nodup := (row_rise a).imp fun h => Int.ne_of_lt h
theorem FnP.add {B : Nat → Nat → Bool} {f : List Int} (h : FnP f) (j : Int) : FnP (addF B f j) := by
  refine ⟨List.nodup_append.mpr ⟨h.nd, (row_nodup _).sublist List.filter_sublist, fun a ha b hb q => ?_⟩, fun x hx => ?_⟩
  · have := (List.mem_filter.mp hb).2
    rw [← q] at this
    have h2 : f.contains a = true := List.contains_iff_mem.mpr ha
    rw [h2] at this
    cases this
  · rcases List.mem_append.mp hx with hx | hx
    · exact h.rg x hx
    · obtain ⟨j', h1, h2, _⟩ := row_in _ (List.mem_filter.mp hx).1
      exact ⟨j', h1, h2⟩
theorem nodup_leI {l₁ : List Int} (hn : l₁.Nodup) : ∀ {l₂ : List Int}, (∀ x ∈ l₁, x ∈ l₂) → l₁.length ≤ l₂.length := by
  induction l₁ with
  | nil => exact fun _ => Nat.zero_le _
  | cons a r ih =>
    intro l₂ h
    have ha := h a (.head _)
    have := ih (List.nodup_cons.mp hn).2 (l₂ := l₂.erase a) fun x hx => (List.mem_erase_of_ne (fun e : x = a => (List.nodup_cons.mp hn).1 (e ▸ hx))).mpr (h x (.tail _ hx))
    rw [List.length_erase_of_mem ha] at this
    have := List.length_pos_of_mem ha
    rw [List.length_cons]
    omega
theorem FnP.len {f : List Int} (h : FnP f) : f.length ≤ 4 := nodup_leI h.nd (l₂ := [0, 1, 2, 3]) fun x hx => by
  obtain ⟨j, h1, rfl⟩ := h.rg x hx
  match j, h1 with
  | 0, _ => simp
  | 1, _ => simp
  | 2, _ => simp
  | 3, _ => simp
theorem add_mem {B : Nat → Nat → Bool} {f : List Int} {j : Int} {x : Int} : x ∈ addF B f j ↔ x ∈ f ∨ x ∈ row (B j.toNat) := by
  unfold addF
  rw [List.mem_append, List.mem_filter]
  constructor
  · rintro (h | h)
    · exact .inl h
    · exact .inr h.1
  · rintro (h | h)
    · exact .inl h
    · by_cases q : x ∈ f
      · exact .inl q
      · refine .inr ⟨h, ?_⟩
        rw [Bool.not_eq_true', Bool.eq_false_iff]
        intro z
        exact q (List.contains_iff_mem.mp z)
theorem isort_row {l : List Int} (h : FnP l) : isort l = row fun k => l.contains (k : Int) := by
  have k1 : ∀ a : Fin 4, isort [(a.val : Int)] = row4 ([(a.val : Int)].contains 0) ([(a.val : Int)].contains 1) ([(a.val : Int)].contains 2) ([(a.val : Int)].contains 3) := by decide
  have k2 : ∀ a b : Fin 4, [(a.val : Int), (b.val : Int)].Nodup → isort [(a.val : Int), (b.val : Int)] = row4 ([(a.val : Int), (b.val : Int)].contains 0) ([(a.val : Int), (b.val : Int)].contains 1) ([(a.val : Int), (b.val : Int)].contains 2) ([(a.val : Int), (b.val : Int)].contains 3) := by decide
  have k3 : ∀ a b c : Fin 4, [(a.val : Int), (b.val : Int), (c.val : Int)].Nodup → isort [(a.val : Int), (b.val : Int), (c.val : Int)] = row4 ([(a.val : Int), (b.val : Int), (c.val : Int)].contains 0) ([(a.val : Int), (b.val : Int), (c.val : Int)].contains 1) ([(a.val : Int), (b.val : Int), (c.val : Int)].contains 2) ([(a.val : Int), (b.val : Int), (c.val : Int)].contains 3) := by decide +kernel
  have k4 : ∀ a b c d : Fin 4, [(a.val : Int), (b.val : Int), (c.val : Int), (d.val : Int)].Nodup → isort [(a.val : Int), (b.val : Int), (c.val : Int), (d.val : Int)] = row4 ([(a.val : Int), (b.val : Int), (c.val : Int), (d.val : Int)].contains 0) ([(a.val : Int), (b.val : Int), (c.val : Int), (d.val : Int)].contains 1) ([(a.val : Int), (b.val : Int), (c.val : Int), (d.val : Int)].contains 2) ([(a.val : Int), (b.val : Int), (c.val : Int), (d.val : Int)].contains 3) := by decide +kernel
  have hl := h.len
  have hr := h.rg
  have hn := h.nd
  match l, hl with
  | [], _ => rfl
  | [a], _ =>
    obtain ⟨a, ha, rfl⟩ := hr a (by simp)
    exact k1 ⟨a, ha⟩
  | [a, b], _ =>
    obtain ⟨a, ha, rfl⟩ := hr a (by simp)
    obtain ⟨b, hb, rfl⟩ := hr b (by simp)
    exact k2 ⟨a, ha⟩ ⟨b, hb⟩ hn
  | [a, b, c], _ =>
    obtain ⟨a, ha, rfl⟩ := hr a (by simp)
    obtain ⟨b, hb, rfl⟩ := hr b (by simp)
    obtain ⟨c, hc, rfl⟩ := hr c (by simp)
    exact k3 ⟨a, ha⟩ ⟨b, hb⟩ ⟨c, hc⟩ hn
  | [a, b, c, d], _ =>
    obtain ⟨a, ha, rfl⟩ := hr a (by simp)
    obtain ⟨b, hb, rfl⟩ := hr b (by simp)
    obtain ⟨c, hc, rfl⟩ := hr c (by simp)
    obtain ⟨d, hd, rfl⟩ := hr d (by simp)
    exact k4 ⟨a, ha⟩ ⟨b, hb⟩ ⟨c, hc⟩ ⟨d, hd⟩ hn
  | _ :: _ :: _ :: _ :: _ :: _, hl => simp at hl
theorem row_congr {a b : Nat → Bool} (h : ∀ j, j < 4 → a j = b j) : row a = row b := by
  unfold row
  rw [h 0 (by decide), h 1 (by decide), h 2 (by decide), h 3 (by decide)]
def prodB (A B : Nat → Nat → Bool) (i k : Nat) : Bool := any4 fun j => A i j && B j k
theorem fold_mem {B : Nat → Nat → Bool} : ∀ (l : List Int) (f : List Int) (x : Int), x ∈ l.foldl (addF B) f ↔ x ∈ f ∨ ∃ j ∈ l, x ∈ row (B j.toNat) := by
  intro l
  induction l with
  | nil => intro f x; simp
  | cons a r ih =>
    intro f x
    rw [List.foldl_cons, ih, add_mem]
    simp only [List.mem_cons]
    constructor
    · rintro ((h | h) | ⟨j, h1, h2⟩)
      · exact .inl h
      · exact .inr ⟨a, .inl rfl, h⟩
      · exact .inr ⟨j, .inr h1, h2⟩
    · rintro (h | ⟨j, rfl | h1, h2⟩)
      · exact .inl (.inl h)
      · exact .inl (.inr h2)
      · exact .inr ⟨j, h1, h2⟩
theorem fold_fn {B : Nat → Nat → Bool} : ∀ (l : List Int) (f : List Int), FnP f → FnP (l.foldl (addF B) f) := by
  intro l
  induction l with
  | nil => exact fun f h => h
  | cons a r ih => exact fun f h => ih _ (h.add a)
theorem fn_nil : FnP [] := ⟨List.nodup_nil, fun x hx => by cases hx⟩
theorem prod_row (A B : Nat → Nat → Bool) (i : Nat) : isort ((row (A i)).foldl (addF B) []) = row (prodB A B i) := by
  rw [isort_row (fold_fn _ _ fn_nil)]
  refine row_congr fun k hk => ?_
  rw [Bool.eq_iff_iff, List.contains_iff_mem, fold_mem]
  unfold prodB
  rw [any4_iff]
  constructor
  · rintro (h | ⟨j, h1, h2⟩)
    · cases h
    · obtain ⟨j', h3, rfl, h4⟩ := row_in _ h1
      refine ⟨j', h3, ?_⟩
      have := List.contains_iff_mem.mpr h2
      rw [row_mem _ hk, Int.toNat_natCast] at this
      rw [h4, this]
      rfl
  · rintro ⟨j, h1, h2⟩
    rw [Bool.and_eq_true] at h2
    refine .inr ⟨(j : Int), List.contains_iff_mem.mp (by rw [row_mem _ h1]; exact h2.1), ?_⟩
    rw [Int.toNat_natCast]
    exact List.contains_iff_mem.mp (by rw [row_mem _ hk]; exact h2.2)
theorem product_op (W : Wd) [Quiet W] (hK : W.K = hd01.heap_1 W.w.params) (T : Top p loose mean mg mb W.base) (n : Nat) (A B : Nat → Nat → Bool) : OpN W (n + 5) (callT (.ref 134)) [tabD A, tabD B] (tabD (prodB A B)) := by
  have hF : Cal W (n + 4) "_filter" filterP := cal_def (by (exact mg_of (Wd.X _) (Wd.g _) (by rw [‹Wd.K _ = _›]; with_unfolding_all rfl))) (by (exact .inr (by rw [‹Wd.K _ = _›]; with_unfolding_all rfl))) (filter_ok W hK T n)
  have hS : Cal W (n + 4) "sorted" sortedP := cal_sorted (by (exact mg_none_of (Wd.X _) (Wd.g _) (by rw [‹Wd.K _ = _›]; with_unfolding_all rfl)))
  (refine fn_run (o := ?o) (fd := ?fd) (body := ?body) (ps := ?ps) (cs := ?cs) ?ho ?hd ?hcd ?hbody ?hbind ?hclo ?hg ?hb ?hco ?hgen ?hk ?hps ?hnd ?hcs ?hlen ?hpure ?run; (case ho => (rw [‹Wd.K _ = _›]; with_unfolding_all rfl)); (case hd => rfl); (case hcd => (rw [‹Wd.K _ = _›]; with_unfolding_all rfl)); (case hbody | hclo | hg | hb | hco | hgen | hk => rfl))
  case ps => exact ["one", "two"]
  case cs => exact []
  case hbind => exact hb2 fun a b => rfl
  case hps => rfl
  case hnd => decide
  case hcs => decide
  case hlen => rfl
  case hpure => (show (pureP 6 (tabD A) && (pureP 6 (tabD B) && true)) = true; rw [tab_pure A 4, tab_pure B 4]; rfl)
  case run =>
    clear hK
    dsimp only [List.zip, List.zipWith]
    refine f_own .nil ?_
    refine f_some (q_cnt 4 (fun i => rwD (A i)) (fun r S => getL "two" S.vars = some (tabD B) ∧ getL "made" S.vars = some (.own 0) ∧ S.own = [.list ((List.range r).map fun i => rwD (prodB A B i))]) (v_name (by (first | ((repeat (first | (with_reducible first | exact getL_hit | exact getL_newh | exact getL_here | assumption) | (with_reducible first | refine (getL_miss (by decide)).trans ?_ | refine (getL_new (by decide)).trans ?_ | refine (getL_cap (by rfl)).trans ?_ | refine (getL_next (by decide)).trans ?_) | rfl)); done) | rfl))) rfl ⟨by (first | ((repeat (first | (with_reducible first | exact getL_hit | exact getL_newh | exact getL_here | assumption) | (with_reducible first | refine (getL_miss (by decide)).trans ?_ | refine (getL_new (by decide)).trans ?_ | refine (getL_cap (by rfl)).trans ?_ | refine (getL_next (by decide)).trans ?_) | rfl)); done) | rfl), getL_newh, rfl⟩ ?step) ?fin
    case fin =>
      rintro S ⟨h1, h2, h3⟩
      exact f_ret (v_name h2) (ret_own (by rw [h3]; rfl) (by rw [List.all_map, List.all_eq_true]; intro x _; exact int_pure 4 _))
    case step =>
      rintro r S hr ⟨h1, h2, h3⟩
      refine ⟨_, bT_name, ?_⟩
      refine q_assign (d := intsD []) (v_list .nil) ?_
      refine q_some (q_for (xs := (row (A r)).map .int) (v_name (by (first | ((repeat (first | (with_reducible first | exact getL_hit | exact getL_newh | exact getL_here | assumption) | (with_reducible first | refine (getL_miss (by decide)).trans ?_ | refine (getL_new (by decide)).trans ?_ | refine (getL_cap (by rfl)).trans ?_ | refine (getL_next (by decide)).trans ?_) | rfl)); done) | rfl))) rfl (fun ds S => ∃ done rest, row (A r) = done ++ rest ∧ ds = rest.map .int ∧ getL "two" S.vars = some (tabD B) ∧ getL "made" S.vars = some (.own 0) ∧ S.own = [.list ((List.range r).map fun i => rwD (prodB A B i))] ∧ getL "found" S.vars = some (intsD (done.foldl (addF B) []))) ⟨[], row (A r), rfl, rfl, by (first | ((repeat (first | (with_reducible first | exact getL_hit | exact getL_newh | exact getL_here | assumption) | (with_reducible first | refine (getL_miss (by decide)).trans ?_ | refine (getL_new (by decide)).trans ?_ | refine (getL_cap (by rfl)).trans ?_ | refine (getL_next (by decide)).trans ?_) | rfl)); done) | rfl), by (first | ((repeat (first | (with_reducible first | exact getL_hit | exact getL_newh | exact getL_here | assumption) | (with_reducible first | refine (getL_miss (by decide)).trans ?_ | refine (getL_new (by decide)).trans ?_ | refine (getL_cap (by rfl)).trans ?_ | refine (getL_next (by decide)).trans ?_) | rfl)); done) | rfl), h3, getL_hit⟩ ?step2) ?fin2
      case step2 =>
        rintro d ds S1 ⟨done, rest, e1, e2, g1, g2, g3, g4⟩
        cases rest with
        | nil => cases e2
        | cons j rest =>
          obtain ⟨rfl, rfl⟩ := List.cons.inj e2
          have hj : j ∈ row (A r) := by rw [e1]; simp
          obtain ⟨j, hj4, rfl, _⟩ := row_in _ hj
          have hP := fold_fn (B := B) done [] fn_nil
          have hl := hP.len
          have hl2 := (hP.add (B := B) (j : Int)).len
          have hrow := row_len (B j)
          refine ⟨_, bT_name, ?_⟩
          refine q_assign (d := intsD (addF B (done.foldl (addF B) []) (j : Int))) ?_ (q_nil ⟨done ++ [(j : Int)], rest, by rw [e1]; simp, rfl, by (first | ((repeat (first | (with_reducible first | exact getL_hit | exact getL_newh | exact getL_here | assumption) | (with_reducible first | refine (getL_miss (by decide)).trans ?_ | refine (getL_new (by decide)).trans ?_ | refine (getL_cap (by rfl)).trans ?_ | refine (getL_next (by decide)).trans ?_) | rfl)); done) | rfl), by (first | ((repeat (first | (with_reducible first | exact getL_hit | exact getL_newh | exact getL_here | assumption) | (with_reducible first | refine (getL_miss (by decide)).trans ?_ | refine (getL_new (by decide)).trans ?_ | refine (getL_cap (by rfl)).trans ?_ | refine (getL_next (by decide)).trans ?_) | rfl)); done) | rfl), g3, by rw [List.foldl_append]; exact getL_hit⟩)
          rw [show intsD (addF B (done.foldl (addF B) []) (j : Int)) = .list ((done.foldl (addF B) []).map .int ++ ((row (B j)).filter fun z => !(done.foldl (addF B) []).contains z).map .int) by unfold addF; rw [Int.toNat_natCast, intsD, List.map_append]]
          have hfl : ((row (B j)).filter fun z => !(done.foldl (addF B) []).contains z).length ≤ 4 := Nat.le_trans (List.length_filter_le _ _) hrow
          exact v_bin (v_name (by (first | ((repeat (first | (with_reducible first | exact getL_hit | exact getL_newh | exact getL_here | assumption) | (with_reducible first | refine (getL_miss (by decide)).trans ?_ | refine (getL_new (by decide)).trans ?_ | refine (getL_cap (by rfl)).trans ?_ | refine (getL_next (by decide)).trans ?_) | rfl)); done) | rfl))) (v_call hF (v_more (v_item (v_name (by (first | ((repeat (first | (with_reducible first | exact getL_hit | exact getL_newh | exact getL_here | assumption) | (with_reducible first | refine (getL_miss (by decide)).trans ?_ | refine (getL_new (by decide)).trans ?_ | refine (getL_cap (by rfl)).trans ?_ | refine (getL_next (by decide)).trans ?_) | rfl)); done) | rfl))) (v_name (by (first | ((repeat (first | (with_reducible first | exact getL_hit | exact getL_newh | exact getL_here | assumption) | (with_reducible first | refine (getL_miss (by decide)).trans ?_ | refine (getL_new (by decide)).trans ?_ | refine (getL_cap (by rfl)).trans ?_ | refine (getL_next (by decide)).trans ?_) | rfl)); done) | rfl))) (tab_at B hj4)) (v_more (v_name (by (first | ((repeat (first | (with_reducible first | exact getL_hit | exact getL_newh | exact getL_here | assumption) | (with_reducible first | refine (getL_miss (by decide)).trans ?_ | refine (getL_new (by decide)).trans ?_ | refine (getL_cap (by rfl)).trans ?_ | refine (getL_next (by decide)).trans ?_) | rfl)); done) | rfl))) .nil)) (ap_no (filter_d (by omega)))) (o_cat (by rw [List.length_map, List.length_map]; omega))
      case fin2 =>
        rintro S1 ⟨done, rest, e1, e2, g1, g2, g3, g4⟩
        have hr0 : rest = [] := by
          cases rest with
          | nil => rfl
          | cons _ _ => cases e2
        subst hr0
        rw [List.append_nil] at e1
        subst e1
        have hP := fold_fn (B := B) (row (A r)) [] fn_nil
        have hl := hP.len
        refine q_one (x_app (ds := (List.range r).map fun i => rwD (prodB A B i)) (d := rwD (prodB A B r)) g2 (by rw [g3]; rfl) (v_call hS (v_more (v_name g4) .nil) (ap_no ?_)) (by rw [List.length_map, List.length_range]; omega)) ⟨g1, g2, ?_⟩
        · rw [sorted_d, gate_of (decide_eq_true (by omega)), prod_row]
        · rw [g3, List.range_succ, List.map_append]
          rfl
def greatB (R : Nat → Nat → Bool) : Nat → Nat → Bool := fun i j => !prodB (prodB (fun j i => R i j) fun i j => !R i j) (fun j i => R i j) i j
theorem greatest_op (W : Wd) [Quiet W] (hK : W.K = hd01.heap_1 W.w.params) (T : Top p loose mean mg mb W.base) (n : Nat) (R : Nat → Nat → Bool) : OpN W (n + 6) (callT (.ref 148)) [tabD R] (tabD (greatB R)) := by
  have gE : Glo W "_law_exchanged" 122 := ⟨by (exact mg_of (Wd.X _) (Wd.g _) (by rw [‹Wd.K _ = _›]; with_unfolding_all rfl)), by (exact .inr (by rw [‹Wd.K _ = _›]; with_unfolding_all rfl))⟩
  have gR : Glo W "_law_rest" 127 := ⟨by (exact mg_of (Wd.X _) (Wd.g _) (by rw [‹Wd.K _ = _›]; with_unfolding_all rfl)), by (exact .inr (by rw [‹Wd.K _ = _›]; with_unfolding_all rfl))⟩
  have gP : Glo W "_law_product" 134 := ⟨by (exact mg_of (Wd.X _) (Wd.g _) (by rw [‹Wd.K _ = _›]; with_unfolding_all rfl)), by (exact .inr (by rw [‹Wd.K _ = _›]; with_unfolding_all rfl))⟩
  have oE := fun R => exch_op W hK (n + 3) R
  have oR := fun R => rest_op W hK T n R
  have oP := fun A B => product_op W hK T n A B
  (refine fn_run (o := ?o) (fd := ?fd) (body := ?body) (ps := ?ps) (cs := ?cs) ?ho ?hd ?hcd ?hbody ?hbind ?hclo ?hg ?hb ?hco ?hgen ?hk ?hps ?hnd ?hcs ?hlen ?hpure ?run; (case ho => (rw [‹Wd.K _ = _›]; with_unfolding_all rfl)); (case hd => rfl); (case hcd => (rw [‹Wd.K _ = _›]; with_unfolding_all rfl)); (case hbody | hclo | hg | hb | hco | hgen | hk => rfl))
  case ps => exact ["table"]
  case cs => exact []
  case hbind => exact hb1 fun a => rfl
  case hps => rfl
  case hnd => decide
  case hcs => decide
  case hlen => rfl
  case hpure => (show (pureP 6 (tabD R) && true) = true; rw [tab_pure R 4]; rfl)
  case run =>
    clear hK
    dsimp only [List.zip, List.zipWith]
    refine f_assign (v_op gE (oE R) (v_more (v_name (by (first | ((repeat (first | (with_reducible first | exact getL_hit | exact getL_newh | exact getL_here | assumption) | (with_reducible first | refine (getL_miss (by decide)).trans ?_ | refine (getL_new (by decide)).trans ?_ | refine (getL_cap (by rfl)).trans ?_ | refine (getL_next (by decide)).trans ?_) | rfl)); done) | rfl))) .nil)) ?_
    exact f_ret (v_op gR (oR _) (v_more (v_op gP (oP _ _) (v_more (v_op gP (oP _ _) (v_more (v_name (by (first | ((repeat (first | (with_reducible first | exact getL_hit | exact getL_newh | exact getL_here | assumption) | (with_reducible first | refine (getL_miss (by decide)).trans ?_ | refine (getL_new (by decide)).trans ?_ | refine (getL_cap (by rfl)).trans ?_ | refine (getL_next (by decide)).trans ?_) | rfl)); done) | rfl))) (v_more (v_op gR (oR _) (v_more (v_name (by (first | ((repeat (first | (with_reducible first | exact getL_hit | exact getL_newh | exact getL_here | assumption) | (with_reducible first | refine (getL_miss (by decide)).trans ?_ | refine (getL_new (by decide)).trans ?_ | refine (getL_cap (by rfl)).trans ?_ | refine (getL_next (by decide)).trans ?_) | rfl)); done) | rfl))) .nil)) .nil))) (v_more (v_name (by (first | ((repeat (first | (with_reducible first | exact getL_hit | exact getL_newh | exact getL_here | assumption) | (with_reducible first | refine (getL_miss (by decide)).trans ?_ | refine (getL_new (by decide)).trans ?_ | refine (getL_cap (by rfl)).trans ?_ | refine (getL_next (by decide)).trans ?_) | rfl)); done) | rfl))) .nil))) .nil)) (ret_pure (tab_pure _ 4))
end
end
section
open PySem PySem.W PyProof.Rows PySem.Spec PySem.Calls
set_option maxRecDepth 100000
set_option maxHeartbeats 4000000
section
variable {W : Wd} {n : Nat} {nm : List (Str × NameKind)} {cs : List Str} {S S' S₁ : St} {F : Flo} {T : St → Prop} {d : D}
theorem x_cons {st : PySem.Stmt} {rest : List PySem.Stmt} (x : Ex W n nm cs S (exec st) .next S₁) (y : ExQ W n nm cs S₁ rest .next T ∨ FnR W n nm cs S₁ rest d) : ExQ W n nm cs S (st :: rest) .next T ∨ FnR W n nm cs S (st :: rest) d := y.imp (q_cons x) (f_cons x)
theorem x_assign {x : Str} {p pos : Pos} {value : PySem.Expr} {rest : List PySem.Stmt} {d1 : D} (v : EvD W n nm cs S value d1) (y : ExQ W n nm cs (S.set x d1) rest .next T ∨ FnR W n nm cs (S.set x d1) rest d) (hc : isComp value = false := by rfl) (hx : storable nm cs x = true := by rfl) : ExQ W n nm cs S (.Assign [.Name x p] value pos :: rest) .next T ∨ FnR W n nm cs S (.Assign [.Name x p] value pos :: rest) d := x_cons (ex_assign hx hc v) y
theorem x_some {st : PySem.Stmt} {rest : List PySem.Stmt} {T1 : St → Prop} (x : ∃ S', Ex W n nm cs S (exec st) .next S' ∧ T1 S') (y : ∀ S1, T1 S1 → (ExQ W n nm cs S1 rest .next T ∨ FnR W n nm cs S1 rest d)) : ExQ W n nm cs S (st :: rest) .next T ∨ FnR W n nm cs S (st :: rest) d := by
  obtain ⟨S1, x, h⟩ := x
  exact x_cons x (y S1 h)
/-- list(x) of an own list -/
theorem v_copy [Quiet W] {p pos : Pos} {e : PySem.Expr} {k : Nat} {ds : List D} (hx : EvD W n nm cs S e (.own k)) (hds : S.own[k]? = some (.list ds)) (hz : ds.length ≤ 1000000) (hg : W.mg "list" = none) (hs : ∀ env, starEach [e] env = [(false, eval e env)] := by exact fun _ => rfl) (hk : nm.lookup ("list" : Str) = some .globalImplicit := by rfl) : EvD W n nm cs S (.Call (.Name "list" p) [e] [] pos) (.list ds) := by
  intro A fs env h₀ lo s L Q P q
  refine Call_Name rfl (ev_bind (ev_builtin hk hg PyProof.Rows.boot_list (by decide) (by decide)) P fun v h1 t1 L1 P1 a1 r1 => ?_)
  subst r1
  refine cw_ok (.inl (fun a z => (nomatch z))) (.cons hx (fun env => (hs env).trans rfl) .nil) P1 fun vs h2 t2 L2 a2 R2 => ?_
  obtain ⟨u, rfl, R⟩ := R2.one
  have P2 := P1.arr a2
  cases R with
  | @own _ a ha =>
    obtain ⟨us, c, e1, r⟩ := own_at P2 hds ha
    refine call_list_seq (s := { s with heap := h2, toks := t2 }) a (.inl rfl) e1 rfl rfl (fun h' c' hk he => ?_) (by rw [List.size_toArray, r.length, sizeLine_eq]; omega)
    exact out_list (s := { s with heap := h2, toks := t2 }) P2.hi (fun v h3 t3 L3 a3 R3 => q v h3 t3 L3 ((a1.trans a2).trans a3) R3) us ds _ c' h' t2 rfl hk he (Heap.get?_none_of_le (Nat.le_refl _)) r
end
/-- ints that stand for sets of columns -/
theorem and_nat (a b : Nat) : Builtin.bitAnd (a : Int) (b : Int) = ((a &&& b : Nat) : Int) := by
  rw [bitAnd_pp (Int.natCast_nonneg _) (Int.natCast_nonneg _)]; simp only [Int.toNat_natCast]
theorem or_nat (a b : Nat) : Builtin.bitOr (a : Int) (b : Int) = ((a ||| b : Nat) : Int) := by
  have ha : decide (0 ≤ Builtin.bitNot (a : Int)) = false := by rw [decide_eq_false_iff_not]; unfold Builtin.bitNot; omega
  have hb : decide (0 ≤ Builtin.bitNot (b : Int)) = false := by rw [decide_eq_false_iff_not]; unfold Builtin.bitNot; omega
  have ea : (Builtin.bitNot (Builtin.bitNot (a : Int))).toNat = a := by unfold Builtin.bitNot; omega
  have eb : (Builtin.bitNot (Builtin.bitNot (b : Int))).toNat = b := by unfold Builtin.bitNot; omega
  unfold Builtin.bitOr Builtin.bitAnd
  rw [ha, hb]
  dsimp only
  rw [ea, eb]
  unfold Builtin.bitNot
  omega
section
variable {S : St}
theorem o_and {a b : Nat} : apP S (binP .BitAnd) [.int (a : Int), .int (b : Int)] = some (.int ((a &&& b : Nat) : Int)) := by
  show some (D.int (Builtin.bitAnd (a : Int) (b : Int))) = _
  rw [and_nat]
theorem o_or {a b : Nat} : apP S (binP .BitOr) [.int (a : Int), .int (b : Int)] = some (.int ((a ||| b : Nat) : Int)) := by
  show some (D.int (Builtin.bitOr (a : Int) (b : Int))) = _
  rw [or_nat]
theorem o_nen {a b : Nat} : apP S (cmpP .NotEq) [.int (a : Int), .int (b : Int)] = some (.bool (a != b)) := by
  show some (D.bool ((a : Int) != (b : Int))) = _
  congr 2
  rw [Bool.eq_iff_iff, bne_iff_ne, bne_iff_ne]
  omega
theorem o_eqn {a b : Nat} : apP S (cmpP .Eq) [.int (a : Int), .int (b : Int)] = some (.bool (a == b)) := by
  show some (D.bool ((a : Int) == (b : Int))) = _
  congr 2
  rw [Bool.eq_iff_iff, beq_iff_eq, beq_iff_eq]
  omega
end
def natsD (l : List Nat) : D := .list (l.map fun (k : Nat) => D.int (k : Int))
theorem nats_pure (l : List Nat) (q : Nat) : pureP (q + 1) (natsD l) = true := by
  show (l.map fun (k : Nat) => D.int (k : Int)).all (pureP q) = true
  rw [List.all_map, List.all_eq_true]
  intro x _
  exact pure_int q _
/-- one other row -/
def invStep (row : Nat) (p : Nat × Nat) (o : Nat) : Nat × Nat := if (o &&& row != row) = true then (if (o &&& row == o) = true then p.1 ||| o else p.1, p.2 ||| o) else p
def invRow (ns : List Nat) (row : Nat) : Bool := !((ns.foldl (invStep row) (0, 0)).1 != row && (ns.foldl (invStep row) (0, 0)).2 &&& row == row)
structure InvJ (ns : List Nat) (row : Nat) (p : Nat × Nat) (S : St) : Prop where
  rows : getL "rows" S.vars = some (natsD ns)
  row : getL "row" S.vars = some (.int (row : Int))
  lesser : getL "lesser" S.vars = some (.int (p.1 : Int))
  strange : getL "strange" S.vars = some (.int (p.2 : Int))
theorem InvJ.set {ns : List Nat} {row : Nat} {p : Nat × Nat} {S : St} (J : InvJ ns row p S) {x : Str} {d : D} (h1 : (x == ("rows" : Str)) = false := by decide) (h2 : (x == ("row" : Str)) = false := by decide) (h3 : (x == ("lesser" : Str)) = false := by decide) (h4 : (x == ("strange" : Str)) = false := by decide) : InvJ ns row p (S.set x d) := ⟨(getL_miss h1).trans J.rows, (getL_miss h2).trans J.row, (getL_miss h3).trans J.lesser, (getL_miss h4).trans J.strange⟩
theorem InvJ.setS {ns : List Nat} {row : Nat} {p : Nat × Nat} {S : St} (J : InvJ ns row p S) (s : Nat) : InvJ ns row (p.1, s) (S.set "strange" (.int (s : Int))) := ⟨(getL_miss (by decide)).trans J.rows, (getL_miss (by decide)).trans J.row, (getL_miss (by decide)).trans J.lesser, getL_hit⟩
theorem InvJ.setL {ns : List Nat} {row : Nat} {p : Nat × Nat} {S : St} (J : InvJ ns row p S) (s : Nat) : InvJ ns row (s, p.2) (S.set "lesser" (.int (s : Int))) := ⟨(getL_miss (by decide)).trans J.rows, (getL_miss (by decide)).trans J.row, getL_hit, (getL_miss (by decide)).trans J.strange⟩
theorem inverse_op (W : Wd) [Quiet W] (hK : W.K = hd01.heap_1 W.w.params) (n : Nat) (ns : List Nat) : OpN W (n + 1) (callT (.ref 167)) [natsD ns] (.bool (ns.all (invRow ns))) := by
  (refine fn_run (o := ?o) (fd := ?fd) (body := ?body) (ps := ?ps) (cs := ?cs) ?ho ?hd ?hcd ?hbody ?hbind ?hclo ?hg ?hb ?hco ?hgen ?hk ?hps ?hnd ?hcs ?hlen ?hpure ?run; (case ho => (rw [‹Wd.K _ = _›]; with_unfolding_all rfl)); (case hd => rfl); (case hcd => (rw [‹Wd.K _ = _›]; with_unfolding_all rfl)); (case hbody | hclo | hg | hb | hco | hgen | hk => rfl))
  case ps => exact ["rows"]
  case cs => exact []
  case hbind => exact hb1 fun a => rfl
  case hps => rfl
  case hnd => decide
  case hcs => decide
  case hlen => rfl
  case hpure => (show (pureP 6 (natsD ns) && true) = true; rw [nats_pure ns 5]; rfl)
  case run =>
    clear hK
    dsimp only [List.zip, List.zipWith]
    refine f_forX (xs := ns.map fun (k : Nat) => D.int (k : Int)) (v_name (by (first | ((repeat (first | (with_reducible first | exact getL_hit | exact getL_newh | exact getL_here | assumption) | (with_reducible first | refine (getL_miss (by decide)).trans ?_ | refine (getL_new (by decide)).trans ?_ | refine (getL_cap (by rfl)).trans ?_ | refine (getL_next (by decide)).trans ?_) | rfl)); done) | rfl))) rfl (fun ds S => ∃ done rest, ns = done ++ rest ∧ ds = rest.map (fun (k : Nat) => D.int (k : Int)) ∧ getL "rows" S.vars = some (natsD ns) ∧ done.all (invRow ns) = true) ⟨[], ns, rfl, rfl, by (first | ((repeat (first | (with_reducible first | exact getL_hit | exact getL_newh | exact getL_here | assumption) | (with_reducible first | refine (getL_miss (by decide)).trans ?_ | refine (getL_new (by decide)).trans ?_ | refine (getL_cap (by rfl)).trans ?_ | refine (getL_next (by decide)).trans ?_) | rfl)); done) | rfl), rfl⟩ ?step ?fin
    case fin =>
      rintro S ⟨done, rest, h1, h2, h3, h4⟩
      have hr0 : rest = [] := by
        cases rest with
        | nil => rfl
        | cons _ _ => cases h2
      subst hr0
      rw [List.append_nil] at h1
      rw [← h1] at h4
      rw [h4]
      exact f_ret ev_bool rfl
    case step =>
      rintro d ds S ⟨done, rest, h1, h2, h3, h4⟩
      cases rest with
      | nil => cases h2
      | cons row rest =>
        obtain ⟨rfl, rfl⟩ := List.cons.inj h2
        refine ⟨_, bT_name, ?_⟩
        refine x_assign (d1 := .int ((0 : Nat) : Int)) ev_int ?_
        refine x_assign (d1 := .int ((0 : Nat) : Int)) ev_int ?_
        refine x_some (q_for (xs := ns.map fun (k : Nat) => D.int (k : Int)) (v_name (by (first | ((repeat (first | (with_reducible first | exact getL_hit | exact getL_newh | exact getL_here | assumption) | (with_reducible first | refine (getL_miss (by decide)).trans ?_ | refine (getL_new (by decide)).trans ?_ | refine (getL_cap (by rfl)).trans ?_ | refine (getL_next (by decide)).trans ?_) | rfl)); done) | rfl))) rfl (fun ds S => ∃ done rest, ns = done ++ rest ∧ ds = rest.map (fun (k : Nat) => D.int (k : Int)) ∧ InvJ ns row (done.foldl (invStep row) (0, 0)) S) ⟨[], ns, rfl, rfl, by (first | ((repeat (first | (with_reducible first | exact getL_hit | exact getL_newh | exact getL_here | assumption) | (with_reducible first | refine (getL_miss (by decide)).trans ?_ | refine (getL_new (by decide)).trans ?_ | refine (getL_cap (by rfl)).trans ?_ | refine (getL_next (by decide)).trans ?_) | rfl)); done) | rfl), by (first | ((repeat (first | (with_reducible first | exact getL_hit | exact getL_newh | exact getL_here | assumption) | (with_reducible first | refine (getL_miss (by decide)).trans ?_ | refine (getL_new (by decide)).trans ?_ | refine (getL_cap (by rfl)).trans ?_ | refine (getL_next (by decide)).trans ?_) | rfl)); done) | rfl), by (first | ((repeat (first | (with_reducible first | exact getL_hit | exact getL_newh | exact getL_here | assumption) | (with_reducible first | refine (getL_miss (by decide)).trans ?_ | refine (getL_new (by decide)).trans ?_ | refine (getL_cap (by rfl)).trans ?_ | refine (getL_next (by decide)).trans ?_) | rfl)); done) | rfl), by (first | ((repeat (first | (with_reducible first | exact getL_hit | exact getL_newh | exact getL_here | assumption) | (with_reducible first | refine (getL_miss (by decide)).trans ?_ | refine (getL_new (by decide)).trans ?_ | refine (getL_cap (by rfl)).trans ?_ | refine (getL_next (by decide)).trans ?_) | rfl)); done) | rfl)⟩ ?step2) ?fin2
        case step2 =>
          clear h1 h3 h4 h2
          rintro d ds S1 ⟨done, rest, e1, e2, J⟩
          cases rest with
          | nil => cases e2
          | cons o rest =>
            obtain ⟨rfl, rfl⟩ := List.cons.inj e2
            refine ⟨_, bT_name, ?_⟩
            have J1 := J.set (x := "other") (d := .int (o : Int))
            have fin : ∀ S3, InvJ ns row (invStep row (done.foldl (invStep row) (0, 0)) o) S3 → ∃ done' rest', ns = done' ++ rest' ∧ rest.map (fun (k : Nat) => D.int (k : Int)) = rest'.map (fun (k : Nat) => D.int (k : Int)) ∧ InvJ ns row (done'.foldl (invStep row) (0, 0)) S3 := fun S3 J3 => ⟨done ++ [o], rest, by rw [e1]; simp, rfl, by rw [List.foldl_append]; exact J3⟩
            generalize done.foldl (invStep row) (0, 0) = p at J J1 fin
            obtain ⟨l, s⟩ := p
            refine q_if (b := o &&& row != row) (t_cmp (v_bin (v_name getL_hit) (v_name J1.row) o_and) (v_name J1.row) o_nen) ?_
            unfold invStep at fin
            cases hb : (o &&& row != row) with
            | false =>
              rw [hb, if_neg Bool.false_ne_true] at fin
              exact q_nil (fin _ J1)
            | true =>
              rw [hb, if_pos rfl] at fin
              refine q_assign (d := .int ((s ||| o : Nat) : Int)) (v_bin (v_name J1.strange) (v_name getL_hit) o_or) ?_
              have J2 := J1.setS (s ||| o)
              refine q_if (b := o &&& row == o) (t_cmp (v_bin (v_name (by (first | ((repeat (first | (with_reducible first | exact getL_hit | exact getL_newh | exact getL_here | assumption) | (with_reducible first | refine (getL_miss (by decide)).trans ?_ | refine (getL_new (by decide)).trans ?_ | refine (getL_cap (by rfl)).trans ?_ | refine (getL_next (by decide)).trans ?_) | rfl)); done) | rfl))) (v_name J2.row) o_and) (v_name (by (first | ((repeat (first | (with_reducible first | exact getL_hit | exact getL_newh | exact getL_here | assumption) | (with_reducible first | refine (getL_miss (by decide)).trans ?_ | refine (getL_new (by decide)).trans ?_ | refine (getL_cap (by rfl)).trans ?_ | refine (getL_next (by decide)).trans ?_) | rfl)); done) | rfl))) o_eqn) ?_
              cases hc : (o &&& row == o) with
              | false =>
                rw [hc, if_neg Bool.false_ne_true] at fin
                exact q_nil (fin _ J2)
              | true =>
                rw [hc, if_pos rfl] at fin
                exact q_assign (d := .int ((l ||| o : Nat) : Int)) (v_bin (v_name J2.lesser) (v_name (by (first | ((repeat (first | (with_reducible first | exact getL_hit | exact getL_newh | exact getL_here | assumption) | (with_reducible first | refine (getL_miss (by decide)).trans ?_ | refine (getL_new (by decide)).trans ?_ | refine (getL_cap (by rfl)).trans ?_ | refine (getL_next (by decide)).trans ?_) | rfl)); done) | rfl))) o_or) (q_nil (fin _ (J2.setL (l ||| o))))
        case fin2 =>
          rintro S1 ⟨done', rest', e1, e2, J⟩
          have hr0 : rest' = [] := by
            cases rest' with
            | nil => rfl
            | cons _ _ => cases e2
          subst hr0
          rw [List.append_nil] at e1
          subst e1
          refine x_if (b := !invRow ns row) ?_ (fun hb => ?_) fun hb => ⟨done ++ [row], rest, by rw [h1]; simp, rfl, J.rows, ?_⟩
          · unfold invRow
            rw [Bool.not_not]
            exact t_and (t_cmp (v_name J.lesser) (v_name J.row) o_nen) fun _ => t_cmp (v_bin (v_name J.strange) (v_name J.row) o_and) (v_name J.row) o_eqn
          · have : ns.all (invRow ns) = false := by
              rw [Bool.eq_false_iff]
              intro q
              have := List.all_eq_true.mp q row (by rw [h1]; simp)
              rw [this] at hb
              cases hb
            rw [this]
            exact f_ret ev_bool rfl
          · rw [List.all_append, h4, List.all_cons, List.all_nil]
            simpa using hb
end
section
open PySem PySem.W PyProof.Rows PySem.Spec PySem.Calls
set_option maxRecDepth 100000
set_option maxHeartbeats 4000000
theorem pow_rng16 (w : Nat) (hw : w ≤ 15) : ((2 : Int) ^ w != 0 && b64 (2 ^ w)) = true :=
  (by decide : ∀ w : Fin 16, ((2 : Int) ^ w.val != 0 && b64 (2 ^ w.val)) = true) ⟨w, Nat.lt_succ_of_le hw⟩
theorem o_pow2 {S : St} {w : Nat} (hw : w ≤ 15) : apP S (binP .Pow) [.int 2, .int (w : Int)] = some (.int (2 ^ w)) := by
  have := o_pow (S := S) (i := 2) (j := (w : Int)) (by rw [Bool.and_eq_true, Bool.and_eq_true, decide_eq_true_eq, decide_eq_true_eq]; exact ⟨⟨by omega, by omega⟩, by decide⟩)
  rw [Int.toNat_natCast] at this
  exact this
/-- x // 2 ** w % 2 -/
theorem v_bit {W : Wd} {n : Nat} {nm : List (Str × NameKind)} {cs : List Str} {S : St} {l r : PySem.Expr} {p1 p2 p3 p4 p5 : Pos} {j1 j2 : Nat} {M w : Nat} (hw : w ≤ 15) (x : EvD W n nm cs S l (.int (M : Int))) (y : EvD W n nm cs S r (.int (w : Int))) :
    EvD W n nm cs S (.BinOp (.BinOp l .FloorDiv (.BinOp (.Constant (.int 2) j1 p1) .Pow r p2) p3) .Mod (.Constant (.int 2) j2 p4) p5) (.int ((M / 2 ^ w % 2 : Nat) : Int)) := by
  rw [← div_bit]
  exact v_bin (v_bin x (v_bin ev_int y (o_pow2 hw)) (o_div (pow_rng16 _ hw))) ev_int (o_mod (by decide))
/-- x // 2 ** w % 2 * 2 ** j -/
theorem v_bits {W : Wd} {n : Nat} {nm : List (Str × NameKind)} {cs : List Str} {S : St} {l r q : PySem.Expr} {p1 p2 p3 p4 p5 p6 p7 p8 : Pos} {j1 j2 j3 : Nat} {M w j : Nat} (hw : w ≤ 15) (hj : j ≤ 15) (x : EvD W n nm cs S l (.int (M : Int))) (y : EvD W n nm cs S r (.int (w : Int))) (z : EvD W n nm cs S q (.int (j : Int))) :
    EvD W n nm cs S (.BinOp (.BinOp (.BinOp l .FloorDiv (.BinOp (.Constant (.int 2) j1 p1) .Pow r p2) p3) .Mod (.Constant (.int 2) j2 p4) p5) .Mult (.BinOp (.Constant (.int 2) j3 p6) .Pow q p7) p8) (.int (((M / 2 ^ w % 2) * 2 ^ j : Nat) : Int)) := by
  have h2 := pow_rng16 j hj
  rw [Bool.and_eq_true] at h2
  have := v_bin (op := .Mult) (pos := p8) (v_bit (p1 := p1) (p2 := p2) (p3 := p3) (p4 := p4) (p5 := p5) (j1 := j1) (j2 := j2) hw x y) (v_bin (pos := p7) (ev_int (j := j3) (pos := p6)) z (o_pow2 hj)) (o_mul (by rw [h2.2, Bool.or_true]))
  have e : ((M / 2 ^ w % 2 : Nat) : Int) * 2 ^ j = (((M / 2 ^ w % 2) * 2 ^ j : Nat) : Int) := by push_cast; rfl
  rw [e] at this
  exact this
def bx (i j : Nat) : Nat := (([[8, 7, 6, 11], [5, 4, 3, 10], [2, 1, 0, 9], [12, 13, 14, 15]] : List (List Nat)).getD i []).getD j 0
theorem bx_le : ∀ i j : Fin 4, bx i.val j.val ≤ 15 := by decide
def relM (M i j : Nat) : Bool := M.testBit (bx i j)
def codeN (r : Nat → Bool) : Nat := (r 0).toNat + ((r 1).toNat * 2 + ((r 2).toNat * 4 + (r 3).toNat * 8))
theorem bit_nat (M w : Nat) : M / 2 ^ w % 2 = (M.testBit w).toNat := by
  rw [Nat.testBit_eq_decide_div_mod_eq]
  rcases Nat.mod_two_eq_zero_or_one (M / 2 ^ w) with q | q <;> rw [q] <;> simp
theorem sum_nats (l : List Nat) : sumP [natsD l] = some (.int (l.sum : Nat)) := by
  have h1 : natsD l = .list ((l.map fun (k : Nat) => (k : Int)).map .int) := by unfold natsD; rw [List.map_map]; rfl
  rw [h1, sum_d]
  congr 2
  induction l with
  | nil => rfl
  | cons a r ih =>
    rw [List.map_cons, List.sum_cons, List.sum_cons, ih (by unfold natsD; rw [List.map_map]; rfl)]
    push_cast
    rfl
theorem numbers_op (W : Wd) [Quiet W] (hK : W.K = hd01.heap_1 W.w.params) (n : Nat) (M : Nat) : OpN W (n + 1) (callT (.ref 160)) [.int (M : Int)] (natsD (([0, 1, 2, 3] : List Nat).map fun i => codeN (relM M i))) := by
  have hR : Cal W n "range" rangeP := cal_range (by (exact mg_none_of (Wd.X _) (Wd.g _) (by rw [‹Wd.K _ = _›]; with_unfolding_all rfl)))
  have hS : Cal W n "sum" sumP := cal_sum (by (exact mg_none_of (Wd.X _) (Wd.g _) (by rw [‹Wd.K _ = _›]; with_unfolding_all rfl)))
  (refine fn_run (o := ?o) (fd := ?fd) (body := ?body) (ps := ?ps) (cs := ?cs) ?ho ?hd ?hcd ?hbody ?hbind ?hclo ?hg ?hb ?hco ?hgen ?hk ?hps ?hnd ?hcs ?hlen ?hpure ?run; (case ho => (rw [‹Wd.K _ = _›]; with_unfolding_all rfl)); (case hd => rfl); (case hcd => (rw [‹Wd.K _ = _›]; with_unfolding_all rfl)); (case hbody | hclo | hg | hb | hco | hgen | hk => rfl))
  case ps => exact ["mode"]
  case cs => exact ["mode"]
  case hbind => exact hb1 fun a => rfl
  case hps => rfl
  case hnd => decide
  case hcs => (intro x hx; rw [List.mem_singleton.mp hx]; rfl)
  case hlen => rfl
  case hpure => rfl
  case run =>
    clear hK
    dsimp only [List.zip, List.zipWith]
    refine f_assign (d := .list (([0, 1, 2, 3] : List Nat).map fun i => natsD (([0, 1, 2, 3] : List Nat).map fun j => bx i j))) (v_list (v_more (v_list (v_more ev_int (v_more ev_int (v_more ev_int (v_more ev_int .nil))))) (v_more (v_list (v_more ev_int (v_more ev_int (v_more ev_int (v_more ev_int .nil))))) (v_more (v_list (v_more ev_int (v_more ev_int (v_more ev_int (v_more ev_int .nil))))) (v_more (v_list (v_more ev_int (v_more ev_int (v_more ev_int (v_more ev_int .nil))))) .nil))))) ?_
    refine f_ret (d0 := natsD (([0, 1, 2, 3] : List Nat).map fun i => codeN (relM M i))) ?_ (ret_pure (nats_pure _ 5))
    refine ev_comp (c_oneT (fun i => natsD (([0, 1, 2, 3] : List Nat).map fun j => bx i j)) (fun i => D.int ((codeN (relM M i) : Nat) : Int)) [0, 1, 2, 3] (v_name (by (first | ((repeat (first | (with_reducible first | exact getL_hit | exact getL_newh | exact getL_here | assumption) | (with_reducible first | refine (getL_miss (by decide)).trans ?_ | refine (getL_new (by decide)).trans ?_ | refine (getL_cap (by rfl)).trans ?_ | refine (getL_next (by decide)).trans ?_) | rfl)); done) | rfl))) rfl (by simp) rfl (by (repeat' (first | exact fr_nil | refine fr_free (by (first | ((repeat (first | (with_reducible first | exact getL_hit | exact getL_newh | exact getL_here | assumption) | (with_reducible first | refine (getL_miss (by decide)).trans ?_ | refine (getL_new (by decide)).trans ?_ | refine (getL_cap (by rfl)).trans ?_ | refine (getL_next (by decide)).trans ?_) | rfl)); done) | rfl)) ?_ | refine fr_local ?_ | refine fr_cell ?_ | refine fr_gi ?_))) rfl (fun _ _ => rfl) fun i hi => ?_)
    have hi4 : i < 4 := by revert hi; revert i; decide
    refine ⟨_, bF_name (by (repeat (first | exact getL_capn (by rfl) | refine (getL_miss (by decide)).trans ?_ | refine (getL_cap (by rfl)).trans ?_))), rfl, ?_⟩
    refine v_call hS (v_more (d := natsD (([0, 1, 2, 3] : List Nat).map fun j => (M / 2 ^ bx i j % 2) * 2 ^ j)) (ev_comp (c_oneT (fun (j : Nat) => D.int (j : Int)) (fun j => D.int ((((M / 2 ^ bx i j % 2) * 2 ^ j : Nat)) : Int)) [0, 1, 2, 3] (v_call hR (v_more ev_int .nil) rfl) rfl (by simp) rfl (by (repeat' (first | exact fr_nil | refine fr_free (by (first | ((repeat (first | (with_reducible first | exact getL_hit | exact getL_newh | exact getL_here | assumption) | (with_reducible first | refine (getL_miss (by decide)).trans ?_ | refine (getL_new (by decide)).trans ?_ | refine (getL_cap (by rfl)).trans ?_ | refine (getL_next (by decide)).trans ?_) | rfl)); done) | rfl)) ?_ | refine fr_local ?_ | refine fr_cell ?_ | refine fr_gi ?_))) rfl (fun _ _ => rfl) fun j hj => ?_)) .nil) (ap_no ?_)
    · have hj4 : j < 4 := by revert hj; revert j; decide
      refine ⟨_, bF_name (by (repeat (first | exact getL_capn (by rfl) | refine (getL_miss (by decide)).trans ?_ | refine (getL_cap (by rfl)).trans ?_))), rfl, ?_⟩
      refine v_bits (w := bx i j) (bx_le ⟨i, hi4⟩ ⟨j, hj4⟩) (by omega) (v_name (by (first | ((repeat (first | (with_reducible first | exact getL_hit | exact getL_newh | exact getL_here | assumption) | (with_reducible first | refine (getL_miss (by decide)).trans ?_ | refine (getL_new (by decide)).trans ?_ | refine (getL_cap (by rfl)).trans ?_ | refine (getL_next (by decide)).trans ?_) | rfl)); done) | rfl))) (v_item (v_name (by (first | ((repeat (first | (with_reducible first | exact getL_hit | exact getL_newh | exact getL_here | assumption) | (with_reducible first | refine (getL_miss (by decide)).trans ?_ | refine (getL_new (by decide)).trans ?_ | refine (getL_cap (by rfl)).trans ?_ | refine (getL_next (by decide)).trans ?_) | rfl)); done) | rfl))) (v_name (by (first | ((repeat (first | (with_reducible first | exact getL_hit | exact getL_newh | exact getL_here | assumption) | (with_reducible first | refine (getL_miss (by decide)).trans ?_ | refine (getL_new (by decide)).trans ?_ | refine (getL_cap (by rfl)).trans ?_ | refine (getL_next (by decide)).trans ?_) | rfl)); done) | rfl))) (o_at (j := j) (fits_nat (by omega)) (seqIndex_nat (by simpa using hj4)) ?_)) (v_name (by (first | ((repeat (first | (with_reducible first | exact getL_hit | exact getL_newh | exact getL_here | assumption) | (with_reducible first | refine (getL_miss (by decide)).trans ?_ | refine (getL_new (by decide)).trans ?_ | refine (getL_cap (by rfl)).trans ?_ | refine (getL_next (by decide)).trans ?_) | rfl)); done) | rfl)))
      match j, hj4 with
      | 0, _ => rfl
      | 1, _ => rfl
      | 2, _ => rfl
      | 3, _ => rfl
    · rw [sum_nats]
      congr 3
      unfold codeN relM
      simp only [List.map_cons, List.map_nil, List.sum_cons, List.sum_nil, bit_nat]
      omega
end
section
open PySem PySem.W PyProof.Rows PySem.Spec PySem.Calls
set_option maxRecDepth 100000
set_option maxHeartbeats 4000000
def orSet (m c : Nat) : Nat := (List.range 16).foldl (fun acc j => if m.testBit j = true then acc ||| 2 ^ (j ||| c) else acc) 0
theorem orSet_go (m c k : Nat) : ∀ (l : List Nat) (acc : Nat), (l.foldl (fun acc j => if m.testBit j = true then acc ||| 2 ^ (j ||| c) else acc) acc).testBit k = true ↔ acc.testBit k = true ∨ ∃ j ∈ l, m.testBit j = true ∧ j ||| c = k := by
  intro l
  induction l with
  | nil => intro acc; simp
  | cons a r ih =>
    intro acc
    rw [List.foldl_cons, ih]
    by_cases h : m.testBit a = true
    · rw [if_pos h, Nat.testBit_or, Bool.or_eq_true, Nat.testBit_two_pow, decide_eq_true_eq]
      simp only [List.mem_cons]
      constructor
      · rintro ((q | q) | ⟨j, q1, q2⟩)
        · exact .inl q
        · exact .inr ⟨a, .inl rfl, h, q⟩
        · exact .inr ⟨j, .inr q1, q2⟩
      · rintro (q | ⟨j, rfl | q1, q2⟩)
        · exact .inl (.inl q)
        · exact .inl (.inr q2.2)
        · exact .inr ⟨j, q1, q2⟩
    · rw [if_neg h]
      simp only [List.mem_cons]
      constructor
      · rintro (q | ⟨j, q1, q2⟩)
        · exact .inl q
        · exact .inr ⟨j, .inr q1, q2⟩
      · rintro (q | ⟨j, rfl | q1, q2⟩)
        · exact .inl q
        · exact absurd q2.1 h
        · exact .inr ⟨j, q1, q2⟩
theorem orSet_bit {m c k : Nat} (hm : ∀ j, m.testBit j = true → j < 16) : (orSet m c).testBit k = true ↔ ∃ j, m.testBit j = true ∧ j ||| c = k := by
  unfold orSet
  rw [orSet_go]
  constructor
  · rintro (h | ⟨j, _, h⟩)
    · rw [Nat.zero_testBit] at h; cases h
    · exact ⟨j, h⟩
  · rintro ⟨j, h⟩
    exact .inr ⟨j, List.mem_range.mpr (hm j h.1), h⟩
theorem codeN_lt (r : Nat → Bool) : codeN r < 16 := by
  unfold codeN
  cases r 0 <;> cases r 1 <;> cases r 2 <;> cases r 3 <;> decide
def colN (c : Nat → Nat) (j : Nat) : Nat := codeN fun i => (c i).testBit j
def colsM (c : Nat → Nat) : Nat → Nat
  | 0 => 1
  | r + 1 => colsM c r ||| orSet (colsM c r) (colN c r)
theorem colsM_lt (c : Nat → Nat) : ∀ (r j : Nat), (colsM c r).testBit j = true → j < 16 := by
  intro r
  induction r with
  | zero =>
    intro j h
    have : colsM c 0 = 2 ^ 0 := rfl
    rw [this, Nat.testBit_two_pow, decide_eq_true_eq] at h
    omega
  | succ r ih =>
    intro j h
    unfold colsM at h
    rw [Nat.testBit_or, Bool.or_eq_true] at h
    rcases h with h | h
    · exact ih j h
    · obtain ⟨i, h1, rfl⟩ := (orSet_bit (ih)).mp h
      exact Nat.or_lt_two_pow (n := 4) (ih i h1) (codeN_lt _)
theorem columns_op (W : Wd) [Quiet W] (hK : W.K = hd01.heap_1 W.w.params) (n : Nat) (c : Nat → Nat) : OpN W (n + 1) (callT (.ref 172)) [natsD (([0, 1, 2, 3] : List Nat).map c)] (.set W.tx (colsM c 4)) := by
  have hR : Cal W n "range" rangeP := cal_range (by (exact mg_none_of (Wd.X _) (Wd.g _) (by rw [‹Wd.K _ = _›]; with_unfolding_all rfl)))
  have hS : Cal W n "sum" sumP := cal_sum (by (exact mg_none_of (Wd.X _) (Wd.g _) (by rw [‹Wd.K _ = _›]; with_unfolding_all rfl)))
  (refine fn_run (o := ?o) (fd := ?fd) (body := ?body) (ps := ?ps) (cs := ?cs) ?ho ?hd ?hcd ?hbody ?hbind ?hclo ?hg ?hb ?hco ?hgen ?hk ?hps ?hnd ?hcs ?hlen ?hpure ?run; (case ho => (rw [‹Wd.K _ = _›]; with_unfolding_all rfl)); (case hd => rfl); (case hcd => (rw [‹Wd.K _ = _›]; with_unfolding_all rfl)); (case hbody | hclo | hg | hb | hco | hgen | hk => rfl))
  case ps => exact ["rows"]
  case cs => exact ["rows", "j", "column"]
  case hbind => exact hb1 fun a => rfl
  case hps => rfl
  case hnd => decide
  case hcs => (intro x hx; simp only [List.mem_cons, List.not_mem_nil, or_false] at hx; rcases hx with rfl | rfl | rfl <;> rfl)
  case hlen => rfl
  case hpure => (show (pureP 6 (natsD _) && true) = true; rw [nats_pure _ 5]; rfl)
  case run =>
    clear hK
    dsimp only [List.zip, List.zipWith]
    refine f_assign (d := .set W.tx (2 ^ 0)) (ev_set1 (i := 0) (by decide)) ?_
    refine f_some (q_cnt 4 (fun (k : Nat) => D.int (k : Int)) (fun r S => getL "rows" S.vars = some (natsD (([0, 1, 2, 3] : List Nat).map c)) ∧ getL "made" S.vars = some (.set W.tx (colsM c r))) (v_call hR (v_more ev_int .nil) rfl) rfl ⟨by (first | ((repeat (first | (with_reducible first | exact getL_hit | exact getL_newh | exact getL_here | assumption) | (with_reducible first | refine (getL_miss (by decide)).trans ?_ | refine (getL_new (by decide)).trans ?_ | refine (getL_cap (by rfl)).trans ?_ | refine (getL_next (by decide)).trans ?_) | rfl)); done) | rfl), getL_hit⟩ ?step) ?fin
    case fin =>
      rintro S ⟨h1, h2⟩
      exact f_ret (v_name h2) rfl
    case step =>
      rintro r S hr ⟨h1, h2⟩
      refine ⟨_, bT_name, ?_⟩
      refine q_assign (d := .int ((colN c r : Nat) : Int)) (v_call hS (v_more (d := natsD (([0, 1, 2, 3] : List Nat).map fun i => (c i / 2 ^ r % 2) * 2 ^ i)) (ev_comp (c_oneT (fun (i : Nat) => D.int (i : Int)) (fun i => D.int ((((c i / 2 ^ r % 2) * 2 ^ i : Nat)) : Int)) [0, 1, 2, 3] (v_call hR (v_more ev_int .nil) rfl) rfl (by simp) rfl (by (repeat' (first | exact fr_nil | refine fr_free (by (first | ((repeat (first | (with_reducible first | exact getL_hit | exact getL_newh | exact getL_here | assumption) | (with_reducible first | refine (getL_miss (by decide)).trans ?_ | refine (getL_new (by decide)).trans ?_ | refine (getL_cap (by rfl)).trans ?_ | refine (getL_next (by decide)).trans ?_) | rfl)); done) | rfl)) ?_ | refine fr_local ?_ | refine fr_cell ?_ | refine fr_gi ?_))) rfl (fun _ _ => rfl) fun i hi => ?_)) .nil) (ap_no ?_)) ?_
      · have hi4 : i < 4 := by revert hi; revert i; decide
        replace h1 : getL "rows" S.vars = some (.list (([0, 1, 2, 3] : List Nat).map fun i => D.int ((c i : Nat) : Int))) := h1
        refine ⟨_, bF_name (by (repeat (first | exact getL_capn (by rfl) | refine (getL_miss (by decide)).trans ?_ | refine (getL_cap (by rfl)).trans ?_))), rfl, ?_⟩
        refine v_bits (w := r) (by omega) (by omega) (v_item (v_name ((getL_miss (by decide)).trans ((getL_cap (by rfl)).trans ((getL_miss (by decide)).trans h1)))) (v_name (by (first | ((repeat (first | (with_reducible first | exact getL_hit | exact getL_newh | exact getL_here | assumption) | (with_reducible first | refine (getL_miss (by decide)).trans ?_ | refine (getL_new (by decide)).trans ?_ | refine (getL_cap (by rfl)).trans ?_ | refine (getL_next (by decide)).trans ?_) | rfl)); done) | rfl))) (o_at (j := i) (fits_nat (by omega)) (seqIndex_nat (by simpa using hi4)) ?_)) (v_name (by (first | ((repeat (first | (with_reducible first | exact getL_hit | exact getL_newh | exact getL_here | assumption) | (with_reducible first | refine (getL_miss (by decide)).trans ?_ | refine (getL_new (by decide)).trans ?_ | refine (getL_cap (by rfl)).trans ?_ | refine (getL_next (by decide)).trans ?_) | rfl)); done) | rfl))) (v_name (by (first | ((repeat (first | (with_reducible first | exact getL_hit | exact getL_newh | exact getL_here | assumption) | (with_reducible first | refine (getL_miss (by decide)).trans ?_ | refine (getL_new (by decide)).trans ?_ | refine (getL_cap (by rfl)).trans ?_ | refine (getL_next (by decide)).trans ?_) | rfl)); done) | rfl)))
        match i, hi4 with
        | 0, _ => rfl
        | 1, _ => rfl
        | 2, _ => rfl
        | 3, _ => rfl
      · rw [sum_nats]
        congr 3
        unfold colN codeN
        simp only [List.map_cons, List.map_nil, List.sum_cons, List.sum_nil, bit_nat]
        omega
      · have hcol := codeN_lt fun i => (c i).testBit r
        refine q_assign (d := .set W.tx (colsM c r ||| orSet (colsM c r) (colN c r))) (v_orS (v_name (by (first | ((repeat (first | (with_reducible first | exact getL_hit | exact getL_newh | exact getL_here | assumption) | (with_reducible first | refine (getL_miss (by decide)).trans ?_ | refine (getL_new (by decide)).trans ?_ | refine (getL_cap (by rfl)).trans ?_ | refine (getL_next (by decide)).trans ?_) | rfl)); done) | rfl))) (ev_setcomp (m := colsM c r) (f := fun k => k ||| colN c r) (v_name (by (first | ((repeat (first | (with_reducible first | exact getL_hit | exact getL_newh | exact getL_here | assumption) | (with_reducible first | refine (getL_miss (by decide)).trans ?_ | refine (getL_new (by decide)).trans ?_ | refine (getL_cap (by rfl)).trans ?_ | refine (getL_next (by decide)).trans ?_) | rfl)); done) | rfl))) rfl (by (repeat' (first | exact fr_nil | refine fr_free (by (first | ((repeat (first | (with_reducible first | exact getL_hit | exact getL_newh | exact getL_here | assumption) | (with_reducible first | refine (getL_miss (by decide)).trans ?_ | refine (getL_new (by decide)).trans ?_ | refine (getL_cap (by rfl)).trans ?_ | refine (getL_next (by decide)).trans ?_) | rfl)); done) | rfl)) ?_ | refine fr_local ?_ | refine fr_cell ?_ | refine fr_gi ?_))) rfl (fun _ _ => rfl) rfl rfl (fun k hk => ⟨_, bF_name (by (repeat (first | exact getL_capn (by rfl) | refine (getL_miss (by decide)).trans ?_ | refine (getL_cap (by rfl)).trans ?_))), v_bin (v_name (by (first | ((repeat (first | (with_reducible first | exact getL_hit | exact getL_newh | exact getL_here | assumption) | (with_reducible first | refine (getL_miss (by decide)).trans ?_ | refine (getL_new (by decide)).trans ?_ | refine (getL_cap (by rfl)).trans ?_ | refine (getL_next (by decide)).trans ?_) | rfl)); done) | rfl))) (v_name (by (first | ((repeat (first | (with_reducible first | exact getL_hit | exact getL_newh | exact getL_here | assumption) | (with_reducible first | refine (getL_miss (by decide)).trans ?_ | refine (getL_new (by decide)).trans ?_ | refine (getL_cap (by rfl)).trans ?_ | refine (getL_next (by decide)).trans ?_) | rfl)); done) | rfl))) o_or, Nat.or_lt_two_pow (n := 4) (colsM_lt c r k hk) hcol⟩) fun k => orSet_bit (colsM_lt c r))) (q_nil ⟨by (first | ((repeat (first | (with_reducible first | exact getL_hit | exact getL_newh | exact getL_here | assumption) | (with_reducible first | refine (getL_miss (by decide)).trans ?_ | refine (getL_new (by decide)).trans ?_ | refine (getL_cap (by rfl)).trans ?_ | refine (getL_next (by decide)).trans ?_) | rfl)); done) | rfl), getL_hit⟩)
end
section
open PySem PySem.W PyProof.Rows PySem.Spec PySem.Calls
set_option maxRecDepth 100000
set_option maxHeartbeats 4000000
/-- a row by its number -/
abbrev rowN (c : Nat) : List Int := row fun j => c.testBit j
abbrev rnD (c : Nat) : D := intsD (rowN c)
def madeStep (b : Nat) (ml : List Nat) (a : Nat) : List Nat := if ml.contains (a ||| b) then ml else ml ++ [a ||| b]
def madeRow (ml : List Nat) (b : Nat) : List Nat := ml.foldl (madeStep b) ml
def madeN (l : List Nat) : List Nat := l.foldl madeRow [0]
theorem rowN_inj : ∀ a b : Fin 16, (rowN a.val == rowN b.val) = (a.val == b.val) := by decide
theorem fn_rows (a b : Nat) : FnP (rowN a ++ (rowN b).filter fun z => !(rowN a).contains z) := by
  have h : FnP (rowN a) := ⟨row_nodup _, fun x hx => by obtain ⟨j, h1, h2, _⟩ := row_in _ hx; exact ⟨j, h1, h2⟩⟩
  exact h.add (B := fun _ j => b.testBit j) 0
theorem join_row (a b : Nat) : isort (rowN a ++ (rowN b).filter fun z => !(rowN a).contains z) = rowN (a ||| b) := by
  rw [isort_row (fn_rows a b)]
  refine row_congr fun k hk => ?_
  rw [Nat.testBit_or, Bool.eq_iff_iff, List.contains_iff_mem, Bool.or_eq_true]
  have h := add_mem (B := fun _ j => b.testBit j) (f := rowN a) (j := 0) (x := (k : Int))
  unfold addF at h
  rw [h]
  constructor
  · rintro (q | q)
    · exact .inl (by have := List.contains_iff_mem.mpr q; rw [row_mem _ hk] at this; exact this)
    · exact .inr (by have := List.contains_iff_mem.mpr q; rw [row_mem _ hk] at this; exact this)
  · rintro (q | q)
    · exact .inl (List.contains_iff_mem.mp (by rw [row_mem _ hk]; exact q))
    · exact .inr (List.contains_iff_mem.mp (by rw [row_mem _ hk]; exact q))
theorem in_rows {x : Nat} (hx : x < 16) : ∀ {ml : List Nat}, (∀ y ∈ ml, y < 16) → inP (rnD x) (ml.map rnD) = some (ml.contains x) := by
  intro ml
  induction ml with
  | nil => intro _; rfl
  | cons a r ih =>
    intro h
    have ih := ih fun y hy => h y (.tail _ hy)
    unfold inP at ih ⊢
    rw [List.map_cons, List.map_cons]
    unfold anyP
    have e : eqP 4 (rnD a) (rnD x) = some (a == x) := by
      have := eqP_ints (ns := rowN a) (ms := rowN x) 3
      rw [rowN_inj ⟨a, h a (.head _)⟩ ⟨x, hx⟩] at this
      exact this
    rw [e]
    dsimp only
    rw [ih]
    dsimp only
    rw [List.contains_cons, Bool.beq_comm]
theorem step_lt {b a : Nat} {ml : List Nat} (hb : b < 16) (ha : a < 16) (h : ∀ y ∈ ml, y < 16) : ∀ y ∈ madeStep b ml a, y < 16 := by
  unfold madeStep
  split
  · exact h
  · intro y hy
    rcases List.mem_append.mp hy with hy | hy
    · exact h y hy
    · rw [List.mem_singleton.mp hy]; exact Nat.or_lt_two_pow (n := 4) ha hb
theorem step_nd {b a : Nat} {ml : List Nat} (h : ml.Nodup) : (madeStep b ml a).Nodup := by
  unfold madeStep
  split
  · exact h
  · rename_i q
    refine List.nodup_append.mpr ⟨h, by simp, fun x hx y hy e => ?_⟩
    rw [List.mem_singleton.mp hy] at e
    exact q (List.contains_iff_mem.mpr (e ▸ hx))
theorem len_lt {ml : List Nat} (hn : ml.Nodup) (h : ∀ y ∈ ml, y < 16) : ml.length ≤ 16 := by
  have := nodup_le hn (l₂ := List.range 16) fun x hx => List.mem_range.mpr (h x hx)
  rw [List.length_range] at this
  exact this
structure MdP (ml : List Nat) : Prop where
  nd : ml.Nodup
  lt : ∀ y ∈ ml, y < 16
theorem MdP.step {b a : Nat} {ml : List Nat} (M : MdP ml) (hb : b < 16) (ha : a < 16) : MdP (madeStep b ml a) := ⟨step_nd M.nd, step_lt hb ha M.lt⟩
theorem MdP.fold {b : Nat} (hb : b < 16) : ∀ (l ml : List Nat), MdP ml → (∀ y ∈ l, y < 16) → MdP (l.foldl (madeStep b) ml) := by
  intro l
  induction l with
  | nil => exact fun ml h _ => h
  | cons a r ih => exact fun ml h hl => ih _ (h.step hb (hl a (.head _))) fun y hy => hl y (.tail _ hy)
theorem MdP.row {b : Nat} {ml : List Nat} (M : MdP ml) (hb : b < 16) : MdP (madeRow ml b) := MdP.fold hb ml ml M M.lt
section
variable {p : Program} {loose : List Str} {mean : ExcName → Option Value} {mg mb : Str → Option Value}
theorem made_op (W : Wd) [Quiet W] (hK : W.K = hd01.heap_1 W.w.params) (T : Top p loose mean mg mb W.base) (n : Nat) (c : Nat → Nat) (hc : ∀ i, c i < 16) : OpN W (n + 5) (callT (.ref 155)) [.list (([0, 1, 2, 3] : List Nat).map fun i => rnD (c i))] (.list ((madeN (([0, 1, 2, 3] : List Nat).map c)).map rnD)) := by
  have hF : Cal W (n + 4) "_filter" filterP := cal_def (by (exact mg_of (Wd.X _) (Wd.g _) (by rw [‹Wd.K _ = _›]; with_unfolding_all rfl))) (by (exact .inr (by rw [‹Wd.K _ = _›]; with_unfolding_all rfl))) (filter_ok W hK T n)
  have hS : Cal W (n + 4) "sorted" sortedP := cal_sorted (by (exact mg_none_of (Wd.X _) (Wd.g _) (by rw [‹Wd.K _ = _›]; with_unfolding_all rfl)))
  have gL : W.mg "list" = none := by (exact mg_none_of (Wd.X _) (Wd.g _) (by rw [‹Wd.K _ = _›]; with_unfolding_all rfl))
  (refine fn_run (o := ?o) (fd := ?fd) (body := ?body) (ps := ?ps) (cs := ?cs) ?ho ?hd ?hcd ?hbody ?hbind ?hclo ?hg ?hb ?hco ?hgen ?hk ?hps ?hnd ?hcs ?hlen ?hpure ?run; (case ho => (rw [‹Wd.K _ = _›]; with_unfolding_all rfl)); (case hd => rfl); (case hcd => (rw [‹Wd.K _ = _›]; with_unfolding_all rfl)); (case hbody | hclo | hg | hb | hco | hgen | hk => rfl))
  case ps => exact ["table"]
  case cs => exact []
  case hbind => exact hb1 fun a => rfl
  case hps => rfl
  case hnd => decide
  case hcs => decide
  case hlen => rfl
  case hpure =>
    show (pureP 6 (.list (([0, 1, 2, 3] : List Nat).map fun i => rnD (c i))) && true) = true
    rw [Bool.and_true]
    show (([0, 1, 2, 3] : List Nat).map fun i => rnD (c i)).all (pureP 5) = true
    rw [List.all_map, List.all_eq_true]
    intro x _
    exact pure_ints 4
  case run =>
    clear hK
    dsimp only [List.zip, List.zipWith]
    refine f_own (ds := [.list []]) (v_more (v_list .nil) .nil) ?_
    refine f_some (q_cnt 4 (fun i => rnD (c i)) (fun r S => ∃ ml, ml = ((List.range r).map c).foldl madeRow [0] ∧ MdP ml ∧ getL "made" S.vars = some (.own 0) ∧ S.own = [.list (ml.map rnD)]) (v_name (by (first | ((repeat (first | (with_reducible first | exact getL_hit | exact getL_newh | exact getL_here | assumption) | (with_reducible first | refine (getL_miss (by decide)).trans ?_ | refine (getL_new (by decide)).trans ?_ | refine (getL_cap (by rfl)).trans ?_ | refine (getL_next (by decide)).trans ?_) | rfl)); done) | rfl))) rfl ⟨[0], rfl, ⟨by simp, by simp⟩, getL_newh, rfl⟩ ?step) ?fin
    case fin =>
      rintro S ⟨ml, h0, hM, h2, h3⟩
      refine f_ret (v_name h2) ?_
      have e : ml = madeN (([0, 1, 2, 3] : List Nat).map c) := h0
      rw [← e]
      exact ret_own (by rw [h3]; rfl) (by rw [List.all_map, List.all_eq_true]; intro x _; exact int_pure 4 _)
    case step =>
      rintro r S hr ⟨ml, h0, hM, h2, h3⟩
      refine ⟨_, bT_name, ?_⟩
      have hlen := len_lt hM.nd hM.lt
      refine q_some (q_for (xs := ml.map rnD) (v_copy (k := 0) (v_name (by (first | ((repeat (first | (with_reducible first | exact getL_hit | exact getL_newh | exact getL_here | assumption) | (with_reducible first | refine (getL_miss (by decide)).trans ?_ | refine (getL_new (by decide)).trans ?_ | refine (getL_cap (by rfl)).trans ?_ | refine (getL_next (by decide)).trans ?_) | rfl)); done) | rfl))) (by show S.own[0]? = _; rw [h3]; rfl) (by rw [List.length_map]; omega) gL) rfl (fun ds S => ∃ done rest, ml = done ++ rest ∧ ds = rest.map rnD ∧ getL "made" S.vars = some (.own 0) ∧ getL "row" S.vars = some (rnD (c r)) ∧ S.own = [.list ((done.foldl (madeStep (c r)) ml).map rnD)]) ⟨[], ml, rfl, rfl, by (first | ((repeat (first | (with_reducible first | exact getL_hit | exact getL_newh | exact getL_here | assumption) | (with_reducible first | refine (getL_miss (by decide)).trans ?_ | refine (getL_new (by decide)).trans ?_ | refine (getL_cap (by rfl)).trans ?_ | refine (getL_next (by decide)).trans ?_) | rfl)); done) | rfl), by (first | ((repeat (first | (with_reducible first | exact getL_hit | exact getL_newh | exact getL_here | assumption) | (with_reducible first | refine (getL_miss (by decide)).trans ?_ | refine (getL_new (by decide)).trans ?_ | refine (getL_cap (by rfl)).trans ?_ | refine (getL_next (by decide)).trans ?_) | rfl)); done) | rfl), h3⟩ ?step2) ?fin2
      case fin2 =>
        rintro S' ⟨done, rest, e1, e2, g1, g2, g3⟩
        have hr0 : rest = [] := by
          cases rest with
          | nil => rfl
          | cons _ _ => cases e2
        subst hr0
        rw [List.append_nil] at e1
        subst e1
        refine q_nil ⟨madeRow ml (c r), ?_, hM.row (hc r), g1, g3⟩
        rw [List.range_succ, List.map_append, List.foldl_append, ← h0]
        rfl
      case step2 =>
        rintro d ds S1 ⟨done, rest, e1, e2, g1, g2, g3⟩
        cases rest with
        | nil => cases e2
        | cons a rest =>
          obtain ⟨rfl, rfl⟩ := List.cons.inj e2
          have ha : a < 16 := hM.lt a (by rw [e1]; simp)
          have hM1 := MdP.fold (hc r) done ml hM fun y hy => hM.lt y (by rw [e1]; simp [hy])
          have hl1 := len_lt hM1.nd hM1.lt
          have hla : (rowN a).length ≤ 4 := row_len _
          have hlb : (rowN (c r)).length ≤ 4 := row_len _
          have hfl : ((rowN (c r)).filter fun z => !(rowN a).contains z).length ≤ 4 := Nat.le_trans (List.length_filter_le _ _) hlb
          have hx : a ||| c r < 16 := Nat.or_lt_two_pow (n := 4) ha (hc r)
          have fin : ∀ S3 : St, getL "made" S3.vars = some (D.own 0) → getL "row" S3.vars = some (rnD (c r)) → S3.own = [.list ((madeStep (c r) (done.foldl (madeStep (c r)) ml) a).map rnD)] → ∃ done' rest', ml = done' ++ rest' ∧ rest.map rnD = rest'.map rnD ∧ getL "made" S3.vars = some (.own 0) ∧ getL "row" S3.vars = some (rnD (c r)) ∧ S3.own = [.list ((done'.foldl (madeStep (c r)) ml).map rnD)] := fun S3 q1 q2 q3 => ⟨done ++ [a], rest, by rw [e1]; simp, rfl, q1, q2, by rw [List.foldl_append]; exact q3⟩
          generalize done.foldl (madeStep (c r)) ml = m1 at g3 hM1 hl1 fin
          refine ⟨_, bT_name, ?_⟩
          refine q_assign (d := rnD (a ||| c r)) (v_call hS (v_more (d := .list ((rowN a).map .int ++ ((rowN (c r)).filter fun z => !(rowN a).contains z).map .int)) (v_bin (v_name (by (first | ((repeat (first | (with_reducible first | exact getL_hit | exact getL_newh | exact getL_here | assumption) | (with_reducible first | refine (getL_miss (by decide)).trans ?_ | refine (getL_new (by decide)).trans ?_ | refine (getL_cap (by rfl)).trans ?_ | refine (getL_next (by decide)).trans ?_) | rfl)); done) | rfl))) (v_call hF (v_more (v_name (by (first | ((repeat (first | (with_reducible first | exact getL_hit | exact getL_newh | exact getL_here | assumption) | (with_reducible first | refine (getL_miss (by decide)).trans ?_ | refine (getL_new (by decide)).trans ?_ | refine (getL_cap (by rfl)).trans ?_ | refine (getL_next (by decide)).trans ?_) | rfl)); done) | rfl))) (v_more (v_name (by (first | ((repeat (first | (with_reducible first | exact getL_hit | exact getL_newh | exact getL_here | assumption) | (with_reducible first | refine (getL_miss (by decide)).trans ?_ | refine (getL_new (by decide)).trans ?_ | refine (getL_cap (by rfl)).trans ?_ | refine (getL_next (by decide)).trans ?_) | rfl)); done) | rfl))) .nil)) (ap_no (filter_d (by omega)))) (o_cat (by rw [List.length_map, List.length_map]; omega))) .nil) (ap_no ?_)) ?_
          · rw [← List.map_append, sorted_d, gate_of (decide_eq_true (by rw [List.length_append]; omega)), join_row]
          · unfold madeStep at fin
            refine q_if (b := !m1.contains (a ||| c r)) (t_cmp (v_name getL_hit) (v_name (by (first | ((repeat (first | (with_reducible first | exact getL_hit | exact getL_newh | exact getL_here | assumption) | (with_reducible first | refine (getL_miss (by decide)).trans ?_ | refine (getL_new (by decide)).trans ?_ | refine (getL_cap (by rfl)).trans ?_ | refine (getL_next (by decide)).trans ?_) | rfl)); done) | rfl))) (o_r rfl (by rw [own_set', own_set', g3]; rfl) ?_)) ?_
            · show (inP (rnD (a ||| c r)) (m1.map rnD)).map (fun b => D.bool (!b)) = _
              rw [in_rows hx hM1.lt]
              rfl
            · cases hb : m1.contains (a ||| c r) with
              | true =>
                rw [hb, if_pos rfl] at fin
                exact q_nil (fin _ (by (first | ((repeat (first | (with_reducible first | exact getL_hit | exact getL_newh | exact getL_here | assumption) | (with_reducible first | refine (getL_miss (by decide)).trans ?_ | refine (getL_new (by decide)).trans ?_ | refine (getL_cap (by rfl)).trans ?_ | refine (getL_next (by decide)).trans ?_) | rfl)); done) | rfl)) (by (first | ((repeat (first | (with_reducible first | exact getL_hit | exact getL_newh | exact getL_here | assumption) | (with_reducible first | refine (getL_miss (by decide)).trans ?_ | refine (getL_new (by decide)).trans ?_ | refine (getL_cap (by rfl)).trans ?_ | refine (getL_next (by decide)).trans ?_) | rfl)); done) | rfl)) g3)
              | false =>
                rw [hb, if_neg Bool.false_ne_true] at fin
                refine q_one (x_app (k := 0) (ds := m1.map rnD) (d := rnD (a ||| c r)) (by (first | ((repeat (first | (with_reducible first | exact getL_hit | exact getL_newh | exact getL_here | assumption) | (with_reducible first | refine (getL_miss (by decide)).trans ?_ | refine (getL_new (by decide)).trans ?_ | refine (getL_cap (by rfl)).trans ?_ | refine (getL_next (by decide)).trans ?_) | rfl)); done) | rfl)) (by rw [own_set', own_set', g3]; rfl) (v_name getL_hit) (by rw [List.length_map]; omega)) (fin _ ?_ ?_ ?_)
                · show getL "made" (St.set _ _ _).vars = _
                  (first | ((repeat (first | (with_reducible first | exact getL_hit | exact getL_newh | exact getL_here | assumption) | (with_reducible first | refine (getL_miss (by decide)).trans ?_ | refine (getL_new (by decide)).trans ?_ | refine (getL_cap (by rfl)).trans ?_ | refine (getL_next (by decide)).trans ?_) | rfl)); done) | rfl)
                · show getL "row" (St.set _ _ _).vars = _
                  (first | ((repeat (first | (with_reducible first | exact getL_hit | exact getL_newh | exact getL_here | assumption) | (with_reducible first | refine (getL_miss (by decide)).trans ?_ | refine (getL_new (by decide)).trans ?_ | refine (getL_cap (by rfl)).trans ?_ | refine (getL_next (by decide)).trans ?_) | rfl)); done) | rfl)
                · show (St.set _ _ _).own.set 0 _ = _
                  rw [own_set', own_set', g3, List.map_append]
                  rfl
end
end
section
open PySem PySem.W PyProof.Rows PySem.Spec PySem.Calls
set_option maxRecDepth 100000
set_option maxHeartbeats 4000000
theorem shown3 (B : Nat → Bool) (k r : Nat) (hr : r < 3) : ∃ c1 c2 c3, (codes B k)[1 + 3 * r]? = some c1 ∧ (codes B k)[2 + 3 * r]? = some c2 ∧ (codes B k)[3 + 3 * r]? = some c3 ∧ (c1 == 114) = B (bx r 0) ∧ (c2 == 119) = B (bx r 1) ∧ Txt.contains (Str.ofString "xst") ⟨#[c3]⟩ = B (bx r 2) ∧ Txt.contains (Str.ofString "sStT") ⟨#[c3]⟩ = B (bx r 3) := by
  have a1 : Txt.contains (Str.ofString "xst") ⟨#[115]⟩ = true := by decide +kernel
  have a2 : Txt.contains (Str.ofString "xst") ⟨#[83]⟩ = false := by decide +kernel
  have a3 : Txt.contains (Str.ofString "xst") ⟨#[120]⟩ = true := by decide +kernel
  have a4 : Txt.contains (Str.ofString "xst") ⟨#[45]⟩ = false := by decide +kernel
  have a5 : Txt.contains (Str.ofString "xst") ⟨#[116]⟩ = true := by decide +kernel
  have a6 : Txt.contains (Str.ofString "xst") ⟨#[84]⟩ = false := by decide +kernel
  have b1 : Txt.contains (Str.ofString "sStT") ⟨#[115]⟩ = true := by decide +kernel
  have b2 : Txt.contains (Str.ofString "sStT") ⟨#[83]⟩ = true := by decide +kernel
  have b3 : Txt.contains (Str.ofString "sStT") ⟨#[120]⟩ = false := by decide +kernel
  have b4 : Txt.contains (Str.ofString "sStT") ⟨#[45]⟩ = false := by decide +kernel
  have b5 : Txt.contains (Str.ofString "sStT") ⟨#[116]⟩ = true := by decide +kernel
  have b6 : Txt.contains (Str.ofString "sStT") ⟨#[84]⟩ = true := by decide +kernel
  have e1 : ∀ b : Bool, (cond b 114 45 == 114) = b := by decide
  have e2 : ∀ b : Bool, (cond b 119 45 == 119) = b := by decide
  have e3 : ∀ a b : Bool, Txt.contains (Str.ofString "xst") ⟨#[trip a b 115 83 120]⟩ = b := by unfold trip; intro a b; cases a <;> cases b <;> assumption
  have e4 : ∀ a b : Bool, Txt.contains (Str.ofString "xst") ⟨#[trip a b 116 84 120]⟩ = b := by unfold trip; intro a b; cases a <;> cases b <;> assumption
  have e5 : ∀ a b : Bool, Txt.contains (Str.ofString "sStT") ⟨#[trip a b 115 83 120]⟩ = a := by unfold trip; intro a b; cases a <;> cases b <;> assumption
  have e6 : ∀ a b : Bool, Txt.contains (Str.ofString "sStT") ⟨#[trip a b 116 84 120]⟩ = a := by unfold trip; intro a b; cases a <;> cases b <;> assumption
  match r, hr with
  | 0, _ => exact ⟨_, _, _, rfl, rfl, rfl, e1 _, e2 _, e3 _ _, e5 _ _⟩
  | 1, _ => exact ⟨_, _, _, rfl, rfl, rfl, e1 _, e2 _, e3 _ _, e5 _ _⟩
  | 2, _ => exact ⟨_, _, _, rfl, rfl, rfl, e1 _, e2 _, e4 _ _, e6 _ _⟩
theorem o_chr {S : St} {x : Str} {k c : Nat} (hx : x.cps.toList = [k]) : apP S (cmpP .Eq) [.str ⟨#[c]⟩, .str x] = some (.bool (c == k)) := by
  show some (D.bool ([c] == x.cps.toList)) = _
  rw [hx]
  congr 2
  rw [Bool.eq_iff_iff, beq_iff_eq, beq_iff_eq]
  simp
theorem o_txt {S : St} {x : Str} {c : Nat} {b : Bool} (h : Txt.contains x ⟨#[c]⟩ = b) : apP S (cmpP .In) [.str ⟨#[c]⟩, .str x] = some (.bool b) := by
  rw [← h]
  rfl
abbrev boolsD (r : Nat → Bool) : D := .list [.bool (r 0), .bool (r 1), .bool (r 2), .bool (r 3)]
theorem bools_at (r : Nat → Bool) {j : Nat} (hj : j < 4) {S : St} : apP S itemP [boolsD r, .int (j : Int)] = some (.bool (r j)) := by
  refine o_at (j := j) (fits_nat (by omega)) (seqIndex_nat (by simpa using hj)) ?_
  match j, hj with
  | 0, _ => rfl
  | 1, _ => rfl
  | 2, _ => rfl
  | 3, _ => rfl
end
section
open PySem PySem.W PyProof.Rows PySem.Spec PySem.Calls
set_option maxRecDepth 100000
set_option maxHeartbeats 4000000
theorem mask_bit {M w : Nat} (h1 : 12 ≤ w) (h2 : w ≤ 15) : (M &&& 61440) / 2 ^ w % 2 = (M.testBit w).toNat := by
  rw [bit_nat, Nat.testBit_and]
  have : (61440 : Nat).testBit w = true := by
    obtain rfl | rfl | rfl | rfl : w = 12 ∨ w = 13 ∨ w = 14 ∨ w = 15 := by omega
    all_goals decide
  rw [this, Bool.and_true]
def fmtP : List D → Option D
  | [.int m] => some (.int (Builtin.bitAnd m 61440))
  | _ => none
theorem fmt_ok (W : Wd) [Quiet W] (hK : W.K = hd01.heap_1 W.w.params) (n : Nat) (ds : List D) (d : D) (e : fmtP ds = some d) : OpN W (n + 1) (callT (.ref 65)) ds d := by
  unfold fmtP at e
  split at e
  · cases e; exact fmt_op W hK n _
  · exact no_some e
def TabJ (M k r : Nat) (S : St) : Prop := getL "text" S.vars = some (.str ⟨(codes M.testBit k).toArray⟩) ∧ getL "kind" S.vars = some (.int ((M &&& 61440 : Nat) : Int)) ∧ getL "shown" S.vars = some (.own 0) ∧ S.own = [.list ((List.range r).map fun i => boolsD (relM M i))]
theorem table_op (W : Wd) [Quiet W] (hK : W.K = hd01.heap_1 W.w.params) (n : Nat) (M : Nat) : OpN W (n + 3) (callT (.ref 117)) [.int (M : Int)] (tabD (relM M)) := by
  have hM : Cal W (n + 2) "filemode" modeP := cal_def (by (exact mg_of (Wd.X _) (Wd.g _) (by rw [‹Wd.K _ = _›]; with_unfolding_all rfl))) (by (exact .inr (by rw [‹Wd.K _ = _›]; with_unfolding_all rfl))) (mode_ok W hK n)
  have hF : Cal W (n + 2) "S_IFMT" fmtP := cal_def (by (exact mg_of (Wd.X _) (Wd.g _) (by rw [‹Wd.K _ = _›]; with_unfolding_all rfl))) (by (exact .inr (by rw [‹Wd.K _ = _›]; with_unfolding_all rfl))) (fmt_ok W hK (n + 1))
  have hR : Cal W (n + 2) "range" rangeP := cal_range (by (exact mg_none_of (Wd.X _) (Wd.g _) (by rw [‹Wd.K _ = _›]; with_unfolding_all rfl)))
  (refine fn_run (o := ?o) (fd := ?fd) (body := ?body) (ps := ?ps) (cs := ?cs) ?ho ?hd ?hcd ?hbody ?hbind ?hclo ?hg ?hb ?hco ?hgen ?hk ?hps ?hnd ?hcs ?hlen ?hpure ?run; (case ho => (rw [‹Wd.K _ = _›]; with_unfolding_all rfl)); (case hd => rfl); (case hcd => (rw [‹Wd.K _ = _›]; with_unfolding_all rfl)); (case hbody | hclo | hg | hb | hco | hgen | hk => rfl))
  case ps => exact ["mode"]
  case cs => exact ["kind"]
  case hbind => exact hb1 fun a => rfl
  case hps => rfl
  case hnd => decide
  case hcs => (intro x hx; rw [List.mem_singleton.mp hx]; rfl)
  case hlen => rfl
  case hpure => rfl
  case run =>
    clear hK
    dsimp only [List.zip, List.zipWith]
    obtain ⟨k, hk⟩ := text_codes M
    refine f_assign (d := .str (modeText M)) (v_call hM (v_more (v_name (by (first | ((repeat (first | (with_reducible first | exact getL_hit | exact getL_newh | exact getL_here | assumption) | (with_reducible first | refine (getL_miss (by decide)).trans ?_ | refine (getL_new (by decide)).trans ?_ | refine (getL_cap (by rfl)).trans ?_ | refine (getL_next (by decide)).trans ?_) | rfl)); done) | rfl))) .nil) rfl) ?_
    refine f_assign (d := .int ((M &&& 61440 : Nat) : Int)) (v_call hF (v_more (v_name (by (first | ((repeat (first | (with_reducible first | exact getL_hit | exact getL_newh | exact getL_here | assumption) | (with_reducible first | refine (getL_miss (by decide)).trans ?_ | refine (getL_new (by decide)).trans ?_ | refine (getL_cap (by rfl)).trans ?_ | refine (getL_next (by decide)).trans ?_) | rfl)); done) | rfl))) .nil) (by rw [← and_nat]; rfl)) ?_
    refine f_own .nil ?_
    refine f_some (q_cnt 3 (fun r => D.int ((1 + 3 * r : Nat) : Int)) (TabJ M k) (v_call hR (v_more ev_int (v_more ev_int (v_more ev_int .nil))) rfl) rfl ⟨by rw [← hk]; (first | ((repeat (first | (with_reducible first | exact getL_hit | exact getL_newh | exact getL_here | assumption) | (with_reducible first | refine (getL_miss (by decide)).trans ?_ | refine (getL_new (by decide)).trans ?_ | refine (getL_cap (by rfl)).trans ?_ | refine (getL_next (by decide)).trans ?_) | rfl)); done) | rfl), by (first | ((repeat (first | (with_reducible first | exact getL_hit | exact getL_newh | exact getL_here | assumption) | (with_reducible first | refine (getL_miss (by decide)).trans ?_ | refine (getL_new (by decide)).trans ?_ | refine (getL_cap (by rfl)).trans ?_ | refine (getL_next (by decide)).trans ?_) | rfl)); done) | rfl), getL_newh, rfl⟩ ?step) ?fin
    case step =>
      rintro r S hr ⟨h1, h2, h3, h4⟩
      have hlen : (⟨(codes M.testBit k).toArray⟩ : Str).length = 10 := rfl
      obtain ⟨c1, c2, c3, q1, q2, q3, e1, e2, e3, e4⟩ := shown3 M.testBit k r hr
      have at_ : ∀ {S : St} {i c : Nat}, i < 10 → (codes M.testBit k)[i]? = some c → apP S itemP [.str ⟨(codes M.testBit k).toArray⟩, .int (i : Int)] = some (.str ⟨#[c]⟩) := fun {S i c} hi hc => o_atS (j := i) (fits_nat (by omega)) (by rw [hlen]; exact seqIndex_nat hi) (by simpa using hc)
      have p1 : (((1 + 3 * r : Nat) : Int) + 1) = ((2 + 3 * r : Nat) : Int) := by omega
      have p2 : (((1 + 3 * r : Nat) : Int) + 2) = ((3 + 3 * r : Nat) : Int) := by omega
      refine ⟨_, bT_name, ?_⟩
      refine q_assign (d := .str ⟨#[c3]⟩) (v_item (v_name (by (first | ((repeat (first | (with_reducible first | exact getL_hit | exact getL_newh | exact getL_here | assumption) | (with_reducible first | refine (getL_miss (by decide)).trans ?_ | refine (getL_new (by decide)).trans ?_ | refine (getL_cap (by rfl)).trans ?_ | refine (getL_next (by decide)).trans ?_) | rfl)); done) | rfl))) (v_bin (v_name (by (first | ((repeat (first | (with_reducible first | exact getL_hit | exact getL_newh | exact getL_here | assumption) | (with_reducible first | refine (getL_miss (by decide)).trans ?_ | refine (getL_new (by decide)).trans ?_ | refine (getL_cap (by rfl)).trans ?_ | refine (getL_next (by decide)).trans ?_) | rfl)); done) | rfl))) ev_int rfl) (by rw [p2]; exact at_ (by omega) q3)) ?_
      refine q_one (x_app (k := 0) (ds := (List.range r).map fun i => boolsD (relM M i)) (d := boolsD (relM M r)) (by (first | ((repeat (first | (with_reducible first | exact getL_hit | exact getL_newh | exact getL_here | assumption) | (with_reducible first | refine (getL_miss (by decide)).trans ?_ | refine (getL_new (by decide)).trans ?_ | refine (getL_cap (by rfl)).trans ?_ | refine (getL_next (by decide)).trans ?_) | rfl)); done) | rfl)) (by rw [own_set', own_set', h4]; rfl) (v_list (v_more (v_cmp (v_item (v_name (by (first | ((repeat (first | (with_reducible first | exact getL_hit | exact getL_newh | exact getL_here | assumption) | (with_reducible first | refine (getL_miss (by decide)).trans ?_ | refine (getL_new (by decide)).trans ?_ | refine (getL_cap (by rfl)).trans ?_ | refine (getL_next (by decide)).trans ?_) | rfl)); done) | rfl))) (v_name (by (first | ((repeat (first | (with_reducible first | exact getL_hit | exact getL_newh | exact getL_here | assumption) | (with_reducible first | refine (getL_miss (by decide)).trans ?_ | refine (getL_new (by decide)).trans ?_ | refine (getL_cap (by rfl)).trans ?_ | refine (getL_next (by decide)).trans ?_) | rfl)); done) | rfl))) (at_ (by omega) q1)) ev_str ?eqa) (v_more (v_cmp (v_item (v_name (by (first | ((repeat (first | (with_reducible first | exact getL_hit | exact getL_newh | exact getL_here | assumption) | (with_reducible first | refine (getL_miss (by decide)).trans ?_ | refine (getL_new (by decide)).trans ?_ | refine (getL_cap (by rfl)).trans ?_ | refine (getL_next (by decide)).trans ?_) | rfl)); done) | rfl))) (v_bin (v_name (by (first | ((repeat (first | (with_reducible first | exact getL_hit | exact getL_newh | exact getL_here | assumption) | (with_reducible first | refine (getL_miss (by decide)).trans ?_ | refine (getL_new (by decide)).trans ?_ | refine (getL_cap (by rfl)).trans ?_ | refine (getL_next (by decide)).trans ?_) | rfl)); done) | rfl))) ev_int rfl) (by rw [p1]; exact at_ (by omega) q2)) ev_str ?eqb) (v_more (v_cmp (v_name getL_hit) ev_str (o_txt e3)) (v_more (v_cmp (v_name getL_hit) ev_str (o_txt e4)) .nil))))) (by rw [List.length_map, List.length_range]; omega)) ⟨?_, ?_, ?_, ?_⟩
      case eqa =>
        rw [show relM M r 0 = (c1 == 114) from e1.symm]
        exact o_chr (by decide +kernel)
      case eqb =>
        rw [show relM M r 1 = (c2 == 119) from e2.symm]
        exact o_chr (by decide +kernel)
      · show getL "text" (St.set _ _ _).vars = _
        (first | ((repeat (first | (with_reducible first | exact getL_hit | exact getL_newh | exact getL_here | assumption) | (with_reducible first | refine (getL_miss (by decide)).trans ?_ | refine (getL_new (by decide)).trans ?_ | refine (getL_cap (by rfl)).trans ?_ | refine (getL_next (by decide)).trans ?_) | rfl)); done) | rfl)
      · show getL "kind" (St.set _ _ _).vars = _
        (first | ((repeat (first | (with_reducible first | exact getL_hit | exact getL_newh | exact getL_here | assumption) | (with_reducible first | refine (getL_miss (by decide)).trans ?_ | refine (getL_new (by decide)).trans ?_ | refine (getL_cap (by rfl)).trans ?_ | refine (getL_next (by decide)).trans ?_) | rfl)); done) | rfl)
      · show getL "shown" (St.set _ _ _).vars = _
        (first | ((repeat (first | (with_reducible first | exact getL_hit | exact getL_newh | exact getL_here | assumption) | (with_reducible first | refine (getL_miss (by decide)).trans ?_ | refine (getL_new (by decide)).trans ?_ | refine (getL_cap (by rfl)).trans ?_ | refine (getL_next (by decide)).trans ?_) | rfl)); done) | rfl)
      · show (St.set _ _ _).own.set 0 _ = _
        rw [own_set', own_set', h4, List.range_succ, List.map_append]
        rfl
    case fin =>
      rintro S ⟨h1, h2, h3, h4⟩
      refine f_cons (x_app (k := 0) (ds := (List.range 3).map fun i => boolsD (relM M i)) (d := boolsD (relM M 3)) h3 (by rw [h4]; rfl) (ev_comp (c_oneT (fun (j : Nat) => D.int ((12 + j : Nat) : Int)) (fun j => D.bool (relM M 3 j)) [0, 1, 2, 3] (v_call hR (v_more ev_int (v_more ev_int .nil)) rfl) rfl (by simp) rfl (by (repeat' (first | exact fr_nil | refine fr_free (by (first | ((repeat (first | (with_reducible first | exact getL_hit | exact getL_newh | exact getL_here | assumption) | (with_reducible first | refine (getL_miss (by decide)).trans ?_ | refine (getL_new (by decide)).trans ?_ | refine (getL_cap (by rfl)).trans ?_ | refine (getL_next (by decide)).trans ?_) | rfl)); done) | rfl)) ?_ | refine fr_local ?_ | refine fr_cell ?_ | refine fr_gi ?_))) rfl (fun _ _ => rfl) fun j hj => ?_)) (by simp)) ?_
      · have hj4 : j < 4 := by revert hj; revert j; decide
        refine ⟨_, bF_name (by (repeat (first | exact getL_capn (by rfl) | refine (getL_miss (by decide)).trans ?_ | refine (getL_cap (by rfl)).trans ?_))), rfl, ?_⟩
        refine v_cmp (v_bit (w := 12 + j) (by omega) (v_name ((getL_miss (by decide)).trans ((getL_cap (by rfl)).trans h2))) (v_name getL_hit)) ev_int ?_
        show some (D.bool (((((M &&& 61440) / 2 ^ (12 + j) % 2 : Nat)) : Int) == 1)) = _
        rw [mask_bit (by omega) (by omega)]
        have hb : bx 3 j = 12 + j := by
          obtain rfl | rfl | rfl | rfl : j = 0 ∨ j = 1 ∨ j = 2 ∨ j = 3 := by omega
          all_goals rfl
        unfold relM
        rw [hb]
        cases M.testBit (12 + j) <;> rfl
      · have h5 : (⟨S.vars, S.own.set 0 (.list (((List.range 3).map fun i => boolsD (relM M i)) ++ [boolsD (relM M 3)]))⟩ : St).own[0]? = some (.list (([0, 1, 2, 3] : List Nat).map fun i => boolsD (relM M i))) := by
          show (S.own.set 0 _)[0]? = _
          rw [h4]
          rfl
        refine f_ret (d0 := tabD (relM M)) (ev_comp (c_own (fun i => boolsD (relM M i)) (fun i => rwD (relM M i)) [0, 1, 2, 3] (v_name (show getL "shown" S.vars = _ from h3)) h5 (by simp) rfl (by (repeat' (first | exact fr_nil | refine fr_free (by (first | ((repeat (first | (with_reducible first | exact getL_hit | exact getL_newh | exact getL_here | assumption) | (with_reducible first | refine (getL_miss (by decide)).trans ?_ | refine (getL_new (by decide)).trans ?_ | refine (getL_cap (by rfl)).trans ?_ | refine (getL_next (by decide)).trans ?_) | rfl)); done) | rfl)) ?_ | refine fr_local ?_ | refine fr_cell ?_ | refine fr_gi ?_))) rfl (fun _ _ => rfl) fun i hi => ?_)) (ret_pure (tab_pure _ 4))
        refine ⟨_, bF_name (by (repeat (first | exact getL_capn (by rfl) | refine (getL_miss (by decide)).trans ?_ | refine (getL_cap (by rfl)).trans ?_))), rfl, ?_⟩
        have hrow := row_of (relM M i)
        rw [show rwD (relM M i) = .list (((([0, 1, 2, 3] : List Nat).filter (relM M i)).map fun (k : Nat) => D.int (k : Int))) by rw [show rwD (relM M i) = intsD (row (relM M i)) from rfl, ← hrow, intsD, List.map_map]; rfl]
        refine ev_comp (c_one (fun (k : Nat) => D.int (k : Int)) (fun (k : Nat) => D.int (k : Int)) (relM M i) [0, 1, 2, 3] (v_call hR (v_more ev_int .nil) rfl) rfl (by simp) rfl (by (repeat' (first | exact fr_nil | refine fr_free (by (first | ((repeat (first | (with_reducible first | exact getL_hit | exact getL_newh | exact getL_here | assumption) | (with_reducible first | refine (getL_miss (by decide)).trans ?_ | refine (getL_new (by decide)).trans ?_ | refine (getL_cap (by rfl)).trans ?_ | refine (getL_next (by decide)).trans ?_) | rfl)); done) | rfl)) ?_ | refine fr_local ?_ | refine fr_cell ?_ | refine fr_gi ?_))) rfl (fun _ _ => rfl) fun j hj => ?_)
        have hj4 : j < 4 := by revert hj; revert j; decide
        exact ⟨_, bF_name (by (repeat (first | exact getL_capn (by rfl) | refine (getL_miss (by decide)).trans ?_ | refine (getL_cap (by rfl)).trans ?_))), ts_one (t_val (v_item (v_name (by (first | ((repeat (first | (with_reducible first | exact getL_hit | exact getL_newh | exact getL_here | assumption) | (with_reducible first | refine (getL_miss (by decide)).trans ?_ | refine (getL_new (by decide)).trans ?_ | refine (getL_cap (by rfl)).trans ?_ | refine (getL_next (by decide)).trans ?_) | rfl)); done) | rfl))) (v_name getL_hit) (bools_at (relM M i) hj4)) rfl), fun _ => v_name getL_hit⟩
end
section
open PySem PySem.W PyProof.Rows PySem.Spec PySem.Calls
set_option maxRecDepth 100000
set_option maxHeartbeats 4000000
/-- laws of sixteen bits, all at once -/
inductive Fm where
  | c (b : Bool)
  | v (k : Nat)
  | a (x y : Fm)
  | o (x y : Fm)
  | n (x : Fm)
def Fm.ev (t : Nat) : Fm → Bool
  | .c b => b
  | .v k => t.testBit k
  | .a x y => x.ev t && y.ev t
  | .o x y => x.ev t || y.ev t
  | .n x => !x.ev t
def vm : Nat → Nat → Nat
  | 0, _ => 0
  | n + 1, k => if k = n then (2 ^ (2 ^ n) - 1) <<< (2 ^ n) else vm n k ||| (vm n k <<< (2 ^ n))
def fullM : Nat := 2 ^ 65536 - 1
def Fm.mask : Fm → Nat
  | .c b => cond b fullM 0
  | .v k => vm 16 k
  | .a x y => x.mask &&& y.mask
  | .o x y => x.mask ||| y.mask
  | .n x => fullM ^^^ x.mask
def Fm.wf : Fm → Bool
  | .c _ => true
  | .v k => decide (k < 16)
  | .a x y => x.wf && y.wf
  | .o x y => x.wf && y.wf
  | .n x => x.wf
theorem high_bit {n t k : Nat} (h1 : 2 ^ n ≤ t) (h2 : t < 2 ^ (n + 1)) : t.testBit k = if k = n then true else (t - 2 ^ n).testBit k := by
  have e : t = 2 ^ n + (t - 2 ^ n) := by omega
  have hlt : t - 2 ^ n < 2 ^ n := by rw [Nat.pow_succ] at h2; omega
  generalize t - 2 ^ n = u at e hlt
  subst e
  split
  · rename_i hk
    subst hk
    rw [Nat.testBit_two_pow_add_eq, Nat.testBit_lt_two_pow hlt]
    rfl
  · rename_i hk
    rcases Nat.lt_or_gt_of_ne hk with q | q
    · rw [Nat.testBit_two_pow_add_gt q]
    · rw [Nat.testBit_lt_two_pow (Nat.lt_of_lt_of_le hlt (Nat.pow_le_pow_right (by decide) (Nat.le_of_lt q))), Nat.testBit_lt_two_pow]
      have : 2 ^ (n + 1) ≤ 2 ^ k := Nat.pow_le_pow_right (by decide) q
      omega
theorem vm_bit : ∀ (n k t : Nat), t < 2 ^ n → k < n → (vm n k).testBit t = t.testBit k := by
  have small : ∀ (n k t : Nat), 2 ^ n ≤ t → (vm n k).testBit t = false := by
    intro n
    induction n with
    | zero => intro k t _; exact Nat.zero_testBit t
    | succ n ih =>
      intro k t ht
      have hp : 2 ^ (n + 1) = 2 ^ n + 2 ^ n := by rw [Nat.pow_succ]; omega
      unfold vm
      split
      · rw [Nat.testBit_shiftLeft, Nat.testBit_two_pow_sub_one, decide_eq_false (show ¬ t - 2 ^ n < 2 ^ n by omega), Bool.and_false]
      · rw [Nat.testBit_or, Nat.testBit_shiftLeft, ih k t (by omega), ih k (t - 2 ^ n) (by omega), Bool.and_false]
        rfl
  intro n
  induction n with
  | zero => intro k t _ hk; exact absurd hk (Nat.not_lt_zero _)
  | succ n ih =>
    intro k t ht hk
    have hp : 2 ^ (n + 1) = 2 ^ n + 2 ^ n := by rw [Nat.pow_succ]; omega
    unfold vm
    by_cases hlow : t < 2 ^ n
    · split
      · rename_i q
        subst q
        rw [Nat.testBit_shiftLeft, decide_eq_false (by omega), Bool.false_and, Nat.testBit_lt_two_pow hlow]
      · rw [Nat.testBit_or, Nat.testBit_shiftLeft, decide_eq_false (show ¬ t ≥ 2 ^ n by omega), Bool.false_and, Bool.or_false]
        exact ih k t hlow (by omega)
    · rw [high_bit (by omega) ht]
      split
      · rw [Nat.testBit_shiftLeft, Nat.testBit_two_pow_sub_one, decide_eq_true (by omega), decide_eq_true (by omega)]
        rfl
      · rw [Nat.testBit_or, Nat.testBit_shiftLeft, decide_eq_true (show t ≥ 2 ^ n by omega), Bool.true_and, small n k t (by omega), Bool.false_or]
        exact ih k (t - 2 ^ n) (by omega) (by omega)
theorem full_bit {t : Nat} (h : t < 65536) : fullM.testBit t = true := by
  unfold fullM
  rw [Nat.testBit_two_pow_sub_one, decide_eq_true h]
theorem mask_ev {t : Nat} (ht : t < 65536) : ∀ F : Fm, F.wf = true → F.mask.testBit t = F.ev t := by
  intro F
  induction F with
  | c b =>
    intro _
    cases b with
    | true => exact full_bit ht
    | false => exact Nat.zero_testBit t
  | v k => intro h; exact vm_bit 16 k t ht (of_decide_eq_true h)
  | a x y ih1 ih2 =>
    intro h
    have h : (x.wf && y.wf) = true := h
    rw [Bool.and_eq_true] at h
    show (x.mask &&& y.mask).testBit t = (x.ev t && y.ev t)
    rw [Nat.testBit_and, ih1 h.1, ih2 h.2]
  | o x y ih1 ih2 =>
    intro h
    have h : (x.wf && y.wf) = true := h
    rw [Bool.and_eq_true] at h
    show (x.mask ||| y.mask).testBit t = (x.ev t || y.ev t)
    rw [Nat.testBit_or, ih1 h.1, ih2 h.2]
  | n x ih =>
    intro h
    show (fullM ^^^ x.mask).testBit t = !x.ev t
    rw [Nat.testBit_xor, full_bit ht, ih h, Bool.true_xor]
theorem fm_eq {X Y : Fm} (h : (X.wf && (Y.wf && X.mask == Y.mask)) = true) {t : Nat} (ht : t < 65536) : X.ev t = Y.ev t := by
  rw [Bool.and_eq_true, Bool.and_eq_true] at h
  rw [← mask_ev ht X h.1, ← mask_ev ht Y h.2.1, eq_of_beq h.2.2]
def all4F (p : Nat → Fm) : Fm := .a (p 0) (.a (p 1) (.a (p 2) (p 3)))
def any4F (p : Nat → Fm) : Fm := .o (p 0) (.o (p 1) (.o (p 2) (p 3)))
def subF (a b : Nat → Fm) : Fm := all4F fun j => .o (.n (a j)) (b j)
def withinF (A B : Nat → Nat → Fm) : Fm := all4F fun i => subF (A i) (B i)
def prodF (A B : Nat → Nat → Fm) (i k : Nat) : Fm := any4F fun j => .a (A i j) (B j k)
def greatF (R : Nat → Nat → Fm) (i j : Nat) : Fm := .n (prodF (prodF (fun j i => R i j) fun i j => .n (R i j)) (fun j i => R i j) i j)
def vA (i j : Nat) : Fm := .v (bx i j)
def neB (a b : Nat → Bool) : Bool := any4 fun j => a j && !b j || !a j && b j
def neF (a b : Nat → Fm) : Fm := any4F fun j => .o (.a (a j) (.n (b j))) (.a (.n (a j)) (b j))
def alikeB (A : Nat → Nat → Bool) : Bool := all4 fun i => all4 fun k => !(neB (A i) (A k) && any4 fun j => A i j && A k j)
def alikeF (A : Nat → Nat → Fm) : Fm := all4F fun i => all4F fun k => .n (.a (neF (A i) (A k)) (any4F fun j => .a (A i j) (A k j)))
def nestB (A : Nat → Nat → Bool) : Bool := all4 fun i => all4 fun k => !(!subB (A i) (A k) && !subB (A k) (A i))
def nestF (A : Nat → Nat → Fm) : Fm := all4F fun i => all4F fun k => .n (.a (.n (subF (A i) (A k))) (.n (subF (A k) (A i))))
def sameB (A B : Nat → Nat → Bool) : Bool := all4 fun i => !neB (A i) (B i)
def sameF (A B : Nat → Nat → Fm) : Fm := all4F fun i => .n (neF (A i) (B i))
def strB (A : Nat → Nat → Bool) (r j : Nat) : Bool := any4 fun o => !subB (A r) (A o) && A o j
def strF (A : Nat → Nat → Fm) (r j : Nat) : Fm := any4F fun o => .a (.n (subF (A r) (A o))) (A o j)
def lesB (A : Nat → Nat → Bool) (r j : Nat) : Bool := any4 fun o => !subB (A r) (A o) && (subB (A o) (A r) && A o j)
def lesF (A : Nat → Nat → Fm) (r j : Nat) : Fm := any4F fun o => .a (.n (subF (A r) (A o))) (.a (subF (A o) (A r)) (A o j))
def invB (A : Nat → Nat → Bool) : Bool := all4 fun r => !(neB (lesB A r) (A r) && subB (A r) (strB A r))
def invF (A : Nat → Nat → Fm) : Fm := all4F fun r => .n (.a (neF (lesF A r) (A r)) (subF (A r) (strF A r)))
def inB (A : Nat → Nat → Bool) (c : Nat) : Bool := all4 fun j => !c.testBit j || any4 fun i => subB (A i) (fun j => c.testBit j) && A i j
def inF (A : Nat → Nat → Fm) (c : Nat) : Fm := all4F fun j => .o (.n (.c (c.testBit j))) (any4F fun i => .a (subF (A i) (fun j => .c (c.testBit j))) (A i j))
section
variable {M : Nat} (hM : M < 65536)
theorem law_alike (hM : M < 65536) : withinB (fun j i => relM M i j) (greatB (relM M)) = alikeB (relM M) :=
  fm_eq (X := withinF (fun j i => vA i j) (greatF vA)) (Y := alikeF vA) (by decide +kernel) hM
theorem law_nest (hM : M < 65536) : withinB (fun j i => !relM M i j) (greatB (relM M)) = nestB (relM M) :=
  fm_eq (X := withinF (fun j i => .n (vA i j)) (greatF vA)) (Y := nestF vA) (by decide +kernel) hM
theorem law_inv (hM : M < 65536) : sameB (prodB (prodB (relM M) (greatB (relM M))) (relM M)) (relM M) = invB (relM M) :=
  fm_eq (X := sameF (prodF (prodF vA (greatF vA)) vA) vA) (Y := invF vA) (by decide +kernel) hM
end
end
section
open PySem PySem.W PyProof.Rows PySem.Spec PySem.Calls
set_option maxRecDepth 100000
set_option maxHeartbeats 4000000
theorem law_kept (A B : Nat → Nat → Bool) : withinB (prodB (prodB A B) A) A = withinB B (greatB A) := by
  rw [Bool.eq_iff_iff]
  unfold withinB subB greatB prodB
  simp only [all4_iff, Bool.or_eq_true, Bool.not_eq_true', Bool.eq_false_iff, ne_eq, any4_iff, Bool.and_eq_true]
  constructor
  · intro h j hj k hk
    by_cases hb : B j k = true
    · refine .inr ?_
      rintro ⟨l, hl, ⟨i, hi, h1, h2⟩, h3⟩
      rcases h i hi l hl with q | q
      · exact q ⟨k, hk, ⟨j, hj, h1, hb⟩, h3⟩
      · exact h2 q
    · exact .inl hb
  · intro h i hi l hl
    by_cases ha : A i l = true
    · exact .inr ha
    · refine .inl ?_
      rintro ⟨k, hk, ⟨j, hj, h1, hb⟩, h3⟩
      rcases h j hj k hk with q | q
      · exact q hb
      · exact q ⟨l, hl, ⟨i, hi, h1, ha⟩, h3⟩
/-- numbers of rows -/
theorem code_bit (r : Nat → Bool) {j : Nat} (hj : j < 4) : (codeN r).testBit j = r j := by
  have key : ∀ a b c d : Bool, ∀ j : Fin 4, (a.toNat + (b.toNat * 2 + (c.toNat * 4 + d.toNat * 8))).testBit j.val = (match j with | 0 => a | 1 => b | 2 => c | 3 => d) := by decide
  unfold codeN
  rw [key _ _ _ _ ⟨j, hj⟩]
  match j, hj with
  | 0, _ => rfl
  | 1, _ => rfl
  | 2, _ => rfl
  | 3, _ => rfl
theorem ext16 {a b : Nat} (ha : a < 16) (hb : b < 16) (h : ∀ j, j < 4 → a.testBit j = b.testBit j) : a = b := by
  refine Nat.eq_of_testBit_eq fun j => ?_
  by_cases hj : j < 4
  · exact h j hj
  · have : 2 ^ 4 ≤ 2 ^ j := Nat.pow_le_pow_right (by decide) (by omega)
    rw [Nat.testBit_lt_two_pow (by omega), Nat.testBit_lt_two_pow (by omega)]
def cd (a b c d : Bool) : Nat := a.toNat + (b.toNat * 2 + (c.toNat * 4 + d.toNat * 8))
theorem code_ne (x y : Nat → Bool) : (codeN x != codeN y) = neB x y := by
  have key : ∀ a b c d e f g h : Bool, (cd a b c d != cd e f g h) = ((a && !e || !a && e) || ((b && !f || !b && f) || ((c && !g || !c && g) || (d && !h || !d && h)))) := by decide
  exact key _ _ _ _ _ _ _ _
theorem code_meet (x y : Nat → Bool) : (codeN x &&& codeN y != 0) = any4 fun j => x j && y j := by
  have key : ∀ a b c d e f g h : Bool, (cd a b c d &&& cd e f g h != 0) = ((a && e) || ((b && f) || ((c && g) || (d && h)))) := by decide
  exact key _ _ _ _ _ _ _ _
theorem code_sub (x y : Nat → Bool) : (codeN x &&& codeN y == codeN x) = subB x y := by
  have key : ∀ a b c d e f g h : Bool, (cd a b c d &&& cd e f g h == cd a b c d) = ((!a || e) && ((!b || f) && ((!c || g) && (!d || h)))) := by decide
  exact key _ _ _ _ _ _ _ _
theorem code_or (x y : Nat → Bool) : codeN x ||| codeN y = codeN fun j => x j || y j := by
  have key : ∀ a b c d e f g h : Bool, cd a b c d ||| cd e f g h = cd (a || e) (b || f) (c || g) (d || h) := by decide
  exact key _ _ _ _ _ _ _ _
theorem code_sub' (x y : Nat → Bool) : (codeN x &&& codeN y == codeN y) = subB y x := by rw [Nat.and_comm]; exact code_sub y x
theorem inv_step (a l s b : Nat → Bool) : invStep (codeN a) (codeN l, codeN s) (codeN b) = (codeN fun j => l j || (!subB a b && (subB b a && b j)), codeN fun j => s j || (!subB a b && b j)) := by
  unfold invStep
  have h1 : (codeN b &&& codeN a != codeN a) = !subB a b := by
    show (!(codeN b &&& codeN a == codeN a)) = _
    rw [code_sub']
  rw [h1, code_sub b a, code_or, code_or]
  cases subB a b <;> cases subB b a <;> simp
theorem inv_row (A : Nat → Nat → Bool) (r : Nat) : invRow (([0, 1, 2, 3] : List Nat).map fun i => codeN (A i)) (codeN (A r)) = !(neB (lesB A r) (A r) && subB (A r) (strB A r)) := by
  have h0 : (0, 0) = (codeN fun _ => false, codeN fun _ => false) := rfl
  unfold invRow
  rw [h0]
  simp only [List.map_cons, List.map_nil, List.foldl_cons, List.foldl_nil, inv_step]
  rw [code_ne, code_sub']
  have e1 : (fun j => (((false || (!subB (A r) (A 0) && (subB (A 0) (A r) && A 0 j))) || (!subB (A r) (A 1) && (subB (A 1) (A r) && A 1 j))) || (!subB (A r) (A 2) && (subB (A 2) (A r) && A 2 j))) || (!subB (A r) (A 3) && (subB (A 3) (A r) && A 3 j))) = lesB A r := by
    funext j
    unfold lesB any4
    rw [Bool.false_or, Bool.or_assoc, Bool.or_assoc]
  have e2 : (fun j => (((false || (!subB (A r) (A 0) && A 0 j)) || (!subB (A r) (A 1) && A 1 j)) || (!subB (A r) (A 2) && A 2 j)) || (!subB (A r) (A 3) && A 3 j)) = strB A r := by
    funext j
    unfold strB any4
    rw [Bool.false_or, Bool.or_assoc, Bool.or_assoc]
  rw [e1, e2]
theorem inv_all (A : Nat → Nat → Bool) : (([0, 1, 2, 3] : List Nat).map fun i => codeN (A i)).all (invRow (([0, 1, 2, 3] : List Nat).map fun i => codeN (A i))) = invB A := by
  have h := inv_row A
  generalize invRow (([0, 1, 2, 3] : List Nat).map fun i => codeN (A i)) = f at h
  show (f (codeN (A 0)) && (f (codeN (A 1)) && (f (codeN (A 2)) && (f (codeN (A 3)) && true)))) = _
  rw [h, h, h, h, Bool.and_true]
  rfl
/-- what is put together of rows -/
def jnP (b : Nat → Nat) (p : Nat → Bool) : Nat → Nat
  | 0 => 0
  | r + 1 => if p r = true then jnP b p r ||| b r else jnP b p r
theorem jnP_congr {b : Nat → Nat} {p q : Nat → Bool} : ∀ (r : Nat), (∀ i, i < r → p i = q i) → jnP b p r = jnP b q r := by
  intro r
  induction r with
  | zero => exact fun _ => rfl
  | succ r ih =>
    intro h
    unfold jnP
    rw [h r (Nat.lt_succ_self _), ih fun i hi => h i (Nat.lt_succ_of_lt hi)]
theorem jnP_bit {b : Nat → Nat} {p : Nat → Bool} {j : Nat} : ∀ (r : Nat), (jnP b p r).testBit j = true ↔ ∃ i, i < r ∧ p i = true ∧ (b i).testBit j = true := by
  intro r
  induction r with
  | zero => unfold jnP; rw [Nat.zero_testBit]; exact ⟨fun h => (nomatch h), fun ⟨i, h, _⟩ => absurd h (Nat.not_lt_zero _)⟩
  | succ r ih =>
    unfold jnP
    constructor
    · intro h
      split at h
      · rename_i q
        rw [Nat.testBit_or, Bool.or_eq_true, ih] at h
        rcases h with ⟨i, h1, h2⟩ | h
        · exact ⟨i, Nat.lt_succ_of_lt h1, h2⟩
        · exact ⟨r, Nat.lt_succ_self _, q, h⟩
      · obtain ⟨i, h1, h2⟩ := ih.mp h
        exact ⟨i, Nat.lt_succ_of_lt h1, h2⟩
    · rintro ⟨i, h1, h2, h3⟩
      by_cases hi : i = r
      · subst hi
        rw [if_pos h2, Nat.testBit_or, h3, Bool.or_true]
      · have := ih.mpr ⟨i, by omega, h2, h3⟩
        split
        · rw [Nat.testBit_or, this]; rfl
        · exact this
theorem jnP_lt {b : Nat → Nat} {p : Nat → Bool} (hb : ∀ i, b i < 16) : ∀ r, jnP b p r < 16 := by
  intro r
  induction r with
  | zero => exact (by decide : (0 : Nat) < 16)
  | succ r ih =>
    unfold jnP
    split
    · exact Nat.or_lt_two_pow (n := 4) ih (hb r)
    · exact ih
/-- a set that grows row by row -/
theorem grow_join {b : Nat → Nat} {J : Nat → Nat → Prop} (h0 : ∀ c, J 0 c ↔ c = 0) (h1 : ∀ r c, J (r + 1) c ↔ J r c ∨ ∃ a, J r a ∧ a ||| b r = c) : ∀ r c, J r c ↔ ∃ p : Nat → Bool, c = jnP b p r := by
  intro r
  induction r with
  | zero => intro c; rw [h0]; exact ⟨fun h => ⟨fun _ => false, h⟩, fun ⟨_, h⟩ => h⟩
  | succ r ih =>
    intro c
    rw [h1]
    constructor
    · rintro (h | ⟨a, h, h2⟩)
      · obtain ⟨p, rfl⟩ := (ih c).mp h
        refine ⟨fun i => p i && decide (i < r), ?_⟩
        conv => rhs; unfold jnP
        rw [if_neg (by simp)]
        exact jnP_congr r fun i hi => by rw [decide_eq_true hi, Bool.and_true]
      · obtain ⟨p, rfl⟩ := (ih a).mp h
        refine ⟨fun i => p i || decide (i = r), ?_⟩
        conv => rhs; unfold jnP
        rw [if_pos (by simp), ← h2]
        congr 1
        exact jnP_congr r fun i hi => by rw [decide_eq_false (by omega), Bool.or_false]
    · rintro ⟨p, h⟩
      unfold jnP at h
      split at h
      · exact .inr ⟨_, (ih _).mpr ⟨p, rfl⟩, h.symm⟩
      · exact .inl ((ih c).mpr ⟨p, h⟩)
theorem in_join (A : Nat → Nat → Bool) {c : Nat} (hc : c < 16) : inB A c = true ↔ ∃ p : Nat → Bool, c = jnP (fun i => codeN (A i)) p 4 := by
  have hlt : ∀ i, codeN (A i) < 16 := fun i => codeN_lt _
  have hin : inB A c = true ↔ ∀ j, j < 4 → c.testBit j = true → ∃ i, i < 4 ∧ (∀ l, l < 4 → A i l = true → c.testBit l = true) ∧ A i j = true := by
    unfold inB subB
    simp only [all4_iff, any4_iff, Bool.or_eq_true, Bool.and_eq_true, Bool.not_eq_true', Bool.eq_false_iff, ne_eq]
    constructor
    · intro h j hj hcj
      rcases h j hj with q | ⟨i, hi, h2, h3⟩
      · exact absurd hcj q
      · exact ⟨i, hi, fun l hl ha => (h2 l hl).elim (fun q => absurd ha q) id, h3⟩
    · intro h j hj
      by_cases q : c.testBit j = true
      · obtain ⟨i, hi, h2, h3⟩ := h j hj q
        refine .inr ⟨i, hi, fun l hl => ?_, h3⟩
        by_cases ha : A i l = true
        · exact .inr (h2 l hl ha)
        · exact .inl ha
      · exact .inl q
  rw [hin]
  constructor
  · intro h
    refine ⟨fun i => subB (A i) fun l => c.testBit l, ext16 hc (jnP_lt hlt 4) fun j hj => ?_⟩
    rw [Bool.eq_iff_iff, jnP_bit]
    have hs : ∀ i, subB (A i) (fun l => c.testBit l) = true ↔ ∀ l, l < 4 → A i l = true → c.testBit l = true := fun i => by
      unfold subB
      rw [all4_iff]
      refine forall_congr' fun l => forall_congr' fun hl => ?_
      cases A i l <;> simp
    constructor
    · intro hcj
      obtain ⟨i, hi, h2, h3⟩ := h j hj hcj
      exact ⟨i, hi, (hs i).mpr h2, by rw [code_bit _ hj]; exact h3⟩
    · rintro ⟨i, hi, h2, h3⟩
      rw [code_bit _ hj] at h3
      exact (hs i).mp h2 j hj h3
  · rintro ⟨p, h⟩ j hj hcj
    rw [h, jnP_bit] at hcj
    obtain ⟨i, hi, hp, hb⟩ := hcj
    rw [code_bit _ hj] at hb
    refine ⟨i, hi, fun l hl ha => ?_, hb⟩
    rw [h, jnP_bit]
    exact ⟨i, hi, hp, by rw [code_bit _ hl]; exact ha⟩
/-- counters -/
def addM : List Nat → Nat → List Nat
  | [], x => [x]
  | d :: ds, x => (d ^^^ x) :: addM ds (d &&& x)
def valM (t : Nat) : List Nat → Nat
  | [] => 0
  | d :: ds => (d.testBit t).toNat + 2 * valM t ds
theorem add_val (t : Nat) : ∀ (ds : List Nat) (x : Nat), valM t (addM ds x) = valM t ds + (x.testBit t).toNat := by
  intro ds
  induction ds with
  | nil => intro x; unfold addM valM valM; omega
  | cons d ds ih =>
    intro x
    unfold addM valM
    rw [ih, Nat.testBit_xor, Nat.testBit_and]
    cases d.testBit t <;> cases x.testBit t <;> simp <;> omega
def cntM (l : List Nat) : List Nat := l.foldl addM []
theorem cnt_go (t : Nat) : ∀ (l : List Nat) (ds : List Nat), valM t (l.foldl addM ds) = valM t ds + (l.filter fun x => x.testBit t).length := by
  intro l
  induction l with
  | nil => intro ds; rfl
  | cons x r ih =>
    intro ds
    rw [List.foldl_cons, ih, add_val, List.filter_cons]
    cases x.testBit t <;> simp
    omega
theorem cnt_val (t : Nat) (l : List Nat) : valM t (cntM l) = (l.filter fun x => x.testBit t).length := by
  unfold cntM
  rw [cnt_go]
  unfold valM
  omega
theorem law_count {M : Nat} (hM : M < 65536) : ((List.range 16).filter (inB (relM M))).length = ((List.range 16).filter (inB fun j i => relM M i j)).length := by
  have h : cntM ((List.range 16).map fun c => (inF vA c).mask) = cntM ((List.range 16).map fun c => (inF (fun j i => vA i j) c).mask) := by decide +kernel
  have w1 : ∀ c ∈ List.range 16, (inF vA c).wf = true := by decide
  have w2 : ∀ c ∈ List.range 16, (inF (fun j i => vA i j) c).wf = true := by decide
  have h1 : ∀ c ∈ List.range 16, (inF vA c).mask.testBit M = inB (relM M) c := fun c hc => mask_ev hM (inF vA c) (w1 c hc)
  have h2 : ∀ c ∈ List.range 16, (inF (fun j i => vA i j) c).mask.testBit M = inB (fun j i => relM M i j) c := fun c hc => mask_ev hM (inF (fun j i => vA i j) c) (w2 c hc)
  clear w1 w2
  obtain ⟨mA, hA⟩ : ∃ mA : Nat → Nat, ∀ c, (inF vA c).mask = mA c := ⟨_, fun _ => rfl⟩
  obtain ⟨mB, hB⟩ : ∃ mB : Nat → Nat, ∀ c, (inF (fun j i => vA i j) c).mask = mB c := ⟨_, fun _ => rfl⟩
  simp only [hA, hB] at h h1 h2
  clear hA hB
  have key : ∀ (m : Nat → Nat) (f : Nat → Bool), (∀ c ∈ List.range 16, (m c).testBit M = f c) → ((List.range 16).filter f).length = valM M (cntM ((List.range 16).map m)) := fun m f hf => by
    rw [cnt_val, List.filter_map, List.length_map]
    exact congrArg List.length (List.filter_congr fun c hc => (hf c hc).symm)
  rw [key mA _ h1, key mB _ h2, h]
end
section
open PySem PySem.W PyProof.Rows PySem.Spec PySem.Calls
set_option maxRecDepth 100000
set_option maxHeartbeats 4000000
theorem row_eq (x y : Nat → Bool) : (row x == row y) = !neB x y := by
  have key : ∀ a b c d e f g h : Bool, (row4 a b c d == row4 e f g h) = !((a && !e || !a && e) || ((b && !f || !b && f) || ((c && !g || !c && g) || (d && !h || !d && h)))) := by decide
  exact key _ _ _ _ _ _ _ _
theorem eq_tab (X A : Nat → Nat → Bool) : eqP 4 (tabD X) (tabD A) = some (sameB X A) := by
  have h : ∀ i, eqP 3 (rwD (X i)) (rwD (A i)) = some (!neB (X i) (A i)) := fun i => by rw [← row_eq]; exact eqP_ints 2
  show (if (([0, 1, 2, 3] : List Nat).map fun i => rwD (X i)).all (pureP 3) && (([0, 1, 2, 3] : List Nat).map fun i => rwD (A i)).all (pureP 3) then (if (([0, 1, 2, 3] : List Nat).map fun i => rwD (X i)).length == (([0, 1, 2, 3] : List Nat).map fun i => rwD (A i)).length then allP (List.zipWith (eqP 3) (([0, 1, 2, 3] : List Nat).map fun i => rwD (X i)) (([0, 1, 2, 3] : List Nat).map fun i => rwD (A i))) else some false) else none) = _
  have p : ∀ R : Nat → Nat → Bool, (([0, 1, 2, 3] : List Nat).map fun i => rwD (R i)).all (pureP 3) = true := fun R => by
    rw [List.all_map, List.all_eq_true]
    intro x _
    exact pure_ints 2
  rw [p X, p A]
  show allP [eqP 3 (rwD (X 0)) (rwD (A 0)), eqP 3 (rwD (X 1)) (rwD (A 1)), eqP 3 (rwD (X 2)) (rwD (A 2)), eqP 3 (rwD (X 3)) (rwD (A 3))] = _
  rw [h, h, h, h]
  show some (!neB (X 0) (A 0) && (!neB (X 1) (A 1) && (!neB (X 2) (A 2) && (!neB (X 3) (A 3) && true)))) = _
  rw [Bool.and_true]
  rfl
def pairIx : List (Nat × Nat) := ([0, 1, 2, 3] : List Nat).flatMap fun i => ([0, 1, 2, 3] : List Nat).map fun k => (i, k)
theorem none_left {α β : Type} (l : List α) (c : α → Bool) (g : α → β) [BEq β] [LawfulBEq β] : ((l.filter c).map g == []) = l.all fun p => !c p := by
  rw [Bool.eq_iff_iff, beq_iff_eq, List.map_eq_nil_iff, List.filter_eq_nil_iff, List.all_eq_true]
  simp
theorem all_pairs (f : Nat → Nat → Bool) : (pairIx.all fun p => f p.1 p.2) = all4 fun i => all4 fun k => f i k := by
  show (f 0 0 && (f 0 1 && (f 0 2 && (f 0 3 && (f 1 0 && (f 1 1 && (f 1 2 && (f 1 3 && (f 2 0 && (f 2 1 && (f 2 2 && (f 2 3 && (f 3 0 && (f 3 1 && (f 3 2 && (f 3 3 && true)))))))))))))))) = _
  unfold all4
  simp only [Bool.and_assoc, Bool.and_true]
theorem alike_list (A : Nat → Nat → Bool) : ((pairIx.filter fun p => codeN (A p.1) != codeN (A p.2) && codeN (A p.1) &&& codeN (A p.2) != 0).map (fun p => ((codeN (A p.1) : Nat) : Int)) == []) = alikeB A := by
  rw [none_left]
  refine Eq.trans ?_ (all_pairs fun i k => !(neB (A i) (A k) && any4 fun j => A i j && A k j))
  congr 1
  funext p
  rw [code_ne, code_meet]
theorem nest_list (A : Nat → Nat → Bool) : ((pairIx.filter fun p => codeN (A p.1) &&& codeN (A p.2) != codeN (A p.1) && codeN (A p.1) &&& codeN (A p.2) != codeN (A p.2)).map (fun p => ((codeN (A p.1) : Nat) : Int)) == []) = nestB A := by
  rw [none_left]
  refine Eq.trans ?_ (all_pairs fun i k => !(!subB (A i) (A k) && !subB (A k) (A i)))
  congr 1
  funext p
  show (!(!(codeN (A p.1) &&& codeN (A p.2) == codeN (A p.1)) && !(codeN (A p.1) &&& codeN (A p.2) == codeN (A p.2)))) = _
  rw [code_sub, code_sub']
theorem made_mem {b x : Nat} : ∀ (l ml : List Nat), x ∈ l.foldl (madeStep b) ml ↔ x ∈ ml ∨ ∃ a ∈ l, a ||| b = x := by
  intro l
  induction l with
  | nil => intro ml; simp
  | cons a r ih =>
    intro ml
    rw [List.foldl_cons, ih]
    have hs : x ∈ madeStep b ml a ↔ x ∈ ml ∨ a ||| b = x := by
      unfold madeStep
      split
      · rename_i h
        have h := List.contains_iff_mem.mp h
        exact ⟨.inl, fun q => q.elim id fun q => q ▸ h⟩
      · rw [List.mem_append, List.mem_singleton, eq_comm (a := x)]
    rw [hs]
    simp only [List.mem_cons]
    constructor
    · rintro ((h | h) | ⟨j, h1, h2⟩)
      · exact .inl h
      · exact .inr ⟨a, .inl rfl, h⟩
      · exact .inr ⟨j, .inr h1, h2⟩
    · rintro (h | ⟨j, rfl | h1, h2⟩)
      · exact .inl (.inl h)
      · exact .inl (.inr h2)
      · exact .inr ⟨j, h1, h2⟩
theorem made_fold {c : Nat → Nat} (hc : ∀ i, c i < 16) : ∀ r, MdP (((List.range r).map c).foldl madeRow [0]) := by
  intro r
  induction r with
  | zero => exact ⟨by simp, by simp⟩
  | succ r ih =>
    rw [List.range_succ, List.map_append, List.foldl_append]
    exact ih.row (hc r)
theorem jnP_congrB {b b' : Nat → Nat} {p : Nat → Bool} : ∀ (r : Nat), (∀ i, i < r → b i = b' i) → jnP b p r = jnP b' p r := by
  intro r
  induction r with
  | zero => exact fun _ => rfl
  | succ r ih =>
    intro h
    unfold jnP
    rw [h r (Nat.lt_succ_self _), ih fun i hi => h i (Nat.lt_succ_of_lt hi)]
theorem made_count (A : Nat → Nat → Bool) : (madeN (([0, 1, 2, 3] : List Nat).map fun i => codeN (A i))).length = ((List.range 16).filter (inB A)).length := by
  have hc : ∀ i, codeN (A i) < 16 := fun i => codeN_lt _
  have hJ := grow_join (b := fun i => codeN (A i)) (J := fun r x => x ∈ ((List.range r).map fun i => codeN (A i)).foldl madeRow [0]) (fun c => by simp) (fun r c => by
    rw [List.range_succ, List.map_append, List.foldl_append]
    exact made_mem _ _)
  have hM := made_fold hc 4
  have e : madeN (([0, 1, 2, 3] : List Nat).map fun i => codeN (A i)) = ((List.range 4).map fun i => codeN (A i)).foldl madeRow [0] := rfl
  rw [e]
  have hmem : ∀ x, x ∈ ((List.range 4).map fun i => codeN (A i)).foldl madeRow [0] ↔ x ∈ (List.range 16).filter (inB A) := fun x => by
    rw [List.mem_filter, List.mem_range]
    constructor
    · intro h
      have hx := hM.lt x h
      exact ⟨hx, (in_join A hx).mpr ((hJ 4 x).mp h)⟩
    · rintro ⟨hx, h⟩
      exact (hJ 4 x).mpr ((in_join A hx).mp h)
  have h1 := nodup_le hM.nd fun x hx => (hmem x).mp hx
  have h2 := nodup_le (l₁ := (List.range 16).filter (inB A)) (List.Nodup.sublist List.filter_sublist List.nodup_range) fun x hx => (hmem x).mpr hx
  omega
theorem cols_count (A : Nat → Nat → Bool) : cnt16 (colsM (fun i => codeN (A i)) 4) = ((List.range 16).filter (inB fun j i => A i j)).length := by
  have hJ := grow_join (b := colN fun i => codeN (A i)) (J := fun r x => (colsM (fun i => codeN (A i)) r).testBit x = true) (fun c => by
    show (2 ^ 0 : Nat).testBit c = true ↔ _
    rw [Nat.testBit_two_pow, decide_eq_true_eq, eq_comm]) (fun r c => by
    conv => lhs; unfold colsM
    rw [Nat.testBit_or, Bool.or_eq_true, orSet_bit (colsM_lt _ r)])
  unfold cnt16
  refine congrArg List.length (List.filter_congr fun c hc => ?_)
  rw [Bool.eq_iff_iff, in_join _ (List.mem_range.mp hc), hJ 4 c]
  have hb : ∀ p, jnP (colN fun i => codeN (A i)) p 4 = jnP (fun j => codeN fun i => A i j) p 4 := fun p => jnP_congrB 4 fun j hj => by
    unfold colN
    have : ∀ i, (codeN (A i)).testBit j = A i j := fun i => code_bit _ hj
    simp only [this]
  simp only [hb]
theorem law_made {M : Nat} (hM : M < 65536) : (madeN (([0, 1, 2, 3] : List Nat).map fun i => codeN (relM M i))).length = cnt16 (colsM (fun i => codeN (relM M i)) 4) := by
  rw [made_count, cols_count, law_count hM]
theorem tab_rn (A : Nat → Nat → Bool) : tabD A = .list (([0, 1, 2, 3] : List Nat).map fun i => rnD (codeN (A i))) := by
  have h : ∀ i, rwD (A i) = rnD (codeN (A i)) := fun i => by
    show intsD (row (A i)) = intsD (row fun j => (codeN (A i)).testBit j)
    congr 1
    exact row_congr fun j hj => (code_bit _ hj).symm
  show D.list [rwD (A 0), rwD (A 1), rwD (A 2), rwD (A 3)] = _
  rw [h, h, h, h]
  rfl
end
section
open PySem PySem.W PyProof.Rows PySem.Spec PySem.Calls
set_option maxRecDepth 100000
set_option maxHeartbeats 4000000
def wdOf {p : Program} {loose : List Str} {mean : ExcName → Option Value} {mg mb : Str → Option Value} {h : Heap} (prog : Program) (w : World) (K : Frag) (T : Top p loose mean mg mb h) (X : K.In h) : Wd :=
  { prog := prog, w := w, base := h, K := K, mg := mg, mb := mb, g := T.g, b := T.b, bb := T.builtins, X := X, nolim := T.nolimit }
theorem lookup_inj {x y : Str} {c : Addr} {l : List (Str × Addr)} (h : (l.map (·.2)).Nodup) (h1 : l.lookup x = some c) (h2 : l.lookup y = some c) : x = y := by
  induction l with
  | nil => cases h1
  | cons p r ih =>
    obtain ⟨z, a⟩ := p
    rw [List.map_cons, List.nodup_cons] at h
    have mem : ∀ {w : Str}, r.lookup w = some c → c ∈ r.map (·.2) := fun {w} q => List.mem_map_of_mem (f := fun p : Str × Addr => p.2) (mem_of_lookup q)
    rw [List.lookup_cons] at h1 h2
    split at h1
    · rename_i q1
      cases h1
      split at h2
      · rename_i q2
        rw [eq_of_beq q1, eq_of_beq q2]
      · exact (h.1 (mem h2)).elim
    · split at h2
      · cases h2
        exact (h.1 (mem h1)).elim
      · exact ih h.2 h1 h2
theorem gone_ns {h : Heap} {l a : Addr} {vs : List Value} {c : Nat} {m : Str → Option Value} (hl : h.get? l = some (lob vs c)) (n : h.Ns a m) : (TI.gone h [l]).Ns a m := by
  obtain ⟨o, es, ep, e, d, r⟩ := n
  refine ⟨o, es, ep, (TI.gone_get fun q => ?_).trans e, d, r⟩
  rw [List.mem_singleton.mp q, hl] at e
  cases e
  cases d
/-- the world without the script's list -/
def Wd.off (W : Wd) (l : Addr) (vs : List Value) (c : Nat) (hl : W.base.get? l = some (lob vs c)) (hK : ∀ o, W.K.lookup l = some o → o.cls ≠ .type "list") : Wd :=
  { W with
    base := TI.gone W.base [l]
    g := gone_ns hl W.g
    b := gone_ns hl W.b
    X := fun a o e => (TI.gone_get fun q => (by
      rw [List.mem_singleton.mp q] at e
      have h1 := W.X _ _ e
      rw [hl] at h1
      cases h1
      exact hK _ e rfl)).trans (W.X a o e)
    nolim := by
      obtain ⟨mc, h1, h2⟩ := W.nolim
      exact ⟨mc, gone_ns hl h1, h2⟩ }
section
variable {W : Wd} {l : Addr} {vs : List Value} {c : Nat} {hl : W.base.get? l = some (lob vs c)} {hK : ∀ o, W.K.lookup l = some o → o.cls ≠ .type "list"}
/-- back to the whole base: numbers and texts alone are kept -/
theorem off_back {n : Nat} {A : Around} {fs : List Addr} {nm : List (Str × NameKind)} {cs : List Str} {env : Env} {S S2 : St} {h : Heap} {L : Lg} (P : Pre (W.off l vs c hl hK) n A fs nm cs env W.base 0 S h L) (hfs : ∀ b ∈ fs, W.base.get? b = none)
    (hv : ∀ p ∈ S2.vars, p ∈ S.vars ∧ p.2.flat = true) (ho : S2.own = []) : Pre W n A fs nm cs env W.base 0 S2 h ⟨[], []⟩ := by
  refine ⟨⟨P.hi.handled, P.hi.room, P.hi.units, ?_, fun b o e => P.keep.same b o e fun q => ?_, (fun p hp => nomatch hp), ⟨(fun p hp => nomatch hp), fun a ha => nomatch ha⟩⟩, P.names, P.envk, P.envg, ⟨P.envb.1, (by obtain ⟨c, o, vs, e1, e2, e3⟩ := P.envb.2; exact ⟨c, o, vs, e1, (TI.gone_some e2).2, e3⟩)⟩, P.keep, P.loc, P.locn, (fun q => nomatch q), fun b e => e, P.cst, P.cinj, fun p hp => ?_, ?_⟩
  · obtain ⟨l', frs, h1, h2, h3, h4⟩ := P.hi.stk
    exact ⟨l', frs, h1, h2, h3, fun p hp => ⟨(h4 p hp).1, hfs _ (h3 ▸ List.mem_map_of_mem hp)⟩⟩
  · rw [hfs b q] at e; cases e
  · obtain ⟨h1, h2⟩ := hv p hp
    obtain ⟨v, V, R⟩ := P.vars p h1
    exact ⟨v, V, R.flat h2⟩
  · rw [ho]
    exact ⟨rfl, .nil, (fun k a e => by cases k <;> cases e), (fun a ha => nomatch ha), fun k a w e => by cases k <;> cases e⟩
/-- the start of the law's body -/
theorem off_start {n : Nat} {A : Around} {nm : List (Str × NameKind)} {cs : List Str} {env : Env} {h : Heap} {m : Str → Option Value} {ns : List Int} (F : Fr W.base env.locals h m) (hi : IntsAre vs ns)
    (hA : A.frames = some [env]) (hnf : env.frame = some env.locals) (hh : A.handled = none) (hroom : A.depth + n < recursionLimit) (hunits : A.units + 8 * n + 16 < cLine)
    (h1 : env.scope.names = nm) (h2 : env.scope.kind = .function) (h3 : env.globals = mainGlobals) (h4 : env.builtins = builtinsNs ∧ CodeOk W env)
    (hc : ∀ x ∈ cs, ∃ c o v, env.cells.lookup x = some c ∧ W.base.get? c = none ∧ h.get? c = some o ∧ o.data = .cell v) (hj : ∀ x y c, env.cells.lookup x = some c → env.cells.lookup y = some c → x = y)
    (hs : env.kindOf "script" = some .local) (hm : m "script" = some (.ref l)) :
    Pre (W.off l vs c hl hK) n A [env.locals] nm cs env W.base 0 ⟨[("script", .list (ns.map .int))], []⟩ h ⟨[(l, lob vs c)], []⟩ := by
  have hLn : W.base.get? env.locals = none := Heap.get?_none_of_le F.above
  have hln : (TI.gone W.base [l]).get? env.locals = none := TI.none_of (fun b o z => (TI.gone_some z).2) hLn
  obtain ⟨oL, es, ep, e, d, _⟩ := F.ns
  refine ⟨⟨fun _ => hh, hroom, hunits, ⟨[env], [(env.locals, oL)], hA, ⟨?_, hnf, ⟨es, ep, d⟩, trivial⟩, rfl, fun p hp => ?_⟩, fun b o z => F.keep b o (TI.gone_some z).2, fun p hp => ?_, ⟨fun p hp _ => ?_, fun a ha => nomatch ha⟩⟩, h1, h2, h3, ⟨h4.1, (by
    obtain ⟨c, o, vs, e1, e2, e3⟩ := h4.2
    refine ⟨c, o, vs, e1, (TI.gone_get fun q => ?_).trans e2, e3⟩
    rw [List.mem_singleton.mp q, hl] at e2
    cases e2
    cases e3)⟩, .of_keep F.keep, ⟨m, F.ns⟩, hLn, (fun q => nomatch q), fun b z => TI.none_of (fun b o z => (TI.gone_some z).2) z, hc, hj, fun p hp => ?_, ⟨rfl, .nil, (fun k a e => by cases k <;> cases e), (fun a ha => nomatch ha), fun k a w e => by cases k <;> cases e⟩⟩
  · rw [h2]; decide
  · rw [List.mem_singleton.mp hp]; exact ⟨e, hln⟩
  · rw [List.mem_singleton.mp hp]; exact ⟨F.keep _ _ hl, rfl⟩
  · rw [List.mem_singleton.mp hp]; exact TI.gone_none (.head _)
  · rw [List.mem_singleton.mp hp]
    exact ⟨.ref l, .inl ⟨hs, m, F.ns, hm⟩, .list (.head _) (Reps.of_ints hi)⟩
end
theorem step_in {W : Wd} {n : Nat} {A : Around} {fs : List Addr} {nm : List (Str × NameKind)} {cs : List Str} {env : Env} {h₀ : Heap} {S S1 : St} {s : Shared} {L : Lg} {st : PySem.Stmt} {rest : List PySem.Stmt} {Q : Flow → Shared → Prop} {E : Value → Shared → Prop} (x : Ex W n nm cs S (exec st) .next S1) (P : Pre W n A fs nm cs env h₀ 0 S s.heap L)
    (k : ∀ h' tk L', Pre W n A fs nm cs env h₀ 0 S1 h' L' → wpAny W.M A (execs rest env) Q E { s with heap := h', toks := tk }) : wpAny W.M A (execs (st :: rest) env) Q E s := by
  refine wpAny_execs_cons (anyE (x A fs env h₀ s L _ P fun f h1 t1 L1 f1 P1 a1 => ?_))
  cases f1
  exact k h1 t1 L1 P1
theorem law_end {W : Wd} {n : Nat} {A : Around} {fs : List Addr} {nm : List (Str × NameKind)} {cs : List Str} {env : Env} {h₀ : Heap} {S S1 : St} {s : Shared} {L : Lg} {rest : List PySem.Stmt} {Q : Flow → Shared → Prop} {E : Value → Shared → Prop} {b : Bool} (x : Ex W n nm cs S (execs rest) (.ret (.bool b)) S1) (P : Pre W n A fs nm cs env h₀ 0 S s.heap L)
    (k : ∀ h' tk L', Pre W n A fs nm cs env h₀ 0 S1 h' L' → Q (.ret (.bool b)) { s with heap := h', toks := tk }) : wpAny W.M A (execs rest env) Q E s := by
  refine anyE (x A fs env h₀ s L _ P fun f h1 t1 L1 f1 P1 a1 => ?_)
  cases f1 with
  | ret r =>
    cases r
    exact k h1 t1 L1 P1
theorem fn_bool {W : Wd} {n : Nat} {nm : List (Str × NameKind)} {cs : List Str} {S : St} {ss : List PySem.Stmt} {b : Bool} (x : FnR W n nm cs S ss (.bool b)) : ∃ S1, Ex W n nm cs S (execs ss) (.ret (.bool b)) S1 := by
  obtain ⟨d0, S', h, e⟩ := x
  refine ⟨S', ?_⟩
  have : d0 = .bool b := by
    cases d0 with
    | own k =>
      have e : (match S'.own[k]? with | some (.list ds) => (if ds.all (pureP 5) then some (D.list ds) else none) | none => none) = some (.bool b) := e
      cases q : S'.own[k]? with
      | none => rw [q] at e; exact no_some e
      | some o =>
        cases o with
        | list ds =>
          rw [q] at e
          exact D.noConfusion (gate_inv e).2
    | none => exact (gate_inv (c := pureP 6 .none) e).2
    | bool x => exact (gate_inv (c := pureP 6 (.bool x)) e).2
    | int x => exact (gate_inv (c := pureP 6 (.int x)) e).2
    | str x => exact (gate_inv (c := pureP 6 (.str x)) e).2
    | list x => exact (gate_inv (c := pureP 6 (.list x)) e).2
    | tup x => exact (gate_inv (c := pureP 6 (.tup x)) e).2
    | range x y z => exact (gate_inv (c := pureP 6 (.range x y z)) e).2
    | set x y => exact Option.some.inj e
  rw [← this]
  exact h
theorem law_endQ {W : Wd} {n : Nat} {A : Around} {fs : List Addr} {nm : List (Str × NameKind)} {cs : List Str} {env : Env} {h₀ : Heap} {S : St} {s : Shared} {L : Lg} {rest : List PySem.Stmt} {Q : Flow → Shared → Prop} {E : Value → Shared → Prop} {b : Bool} (x : ∃ S1, Ex W n nm cs S (execs rest) (.ret (.bool b)) S1) (P : Pre W n A fs nm cs env h₀ 0 S s.heap L)
    (k : ∀ h' tk L' S1, Pre W n A fs nm cs env h₀ 0 S1 h' L' → Q (.ret (.bool b)) { s with heap := h', toks := tk }) : wpAny W.M A (execs rest env) Q E s := by
  obtain ⟨S1, x⟩ := x
  exact law_end x P fun h' tk L' P' => k h' tk L' S1 P'
theorem ints_at {l : Addr} {h : Heap} {vs ws : List Value} (h1 : h.get? l = some { cls := .type "list", data := .seq ws.toArray }) (h2 : h.IsList l vs.toArray) : h.get? l = some (lob vs 0) := by
  obtain ⟨o, e, _, n, d⟩ := h2
  rw [h1] at e
  cases e
  have d : Data.seq ws.toArray 0 = Data.seq vs.toArray n := d
  injection d with d1 d2
  rw [h1, d1]
theorem no_list {K : Frag} (h : (K.all fun p => p.2.cls != .type "list") = true) {l : Addr} : ∀ o, K.lookup l = some o → o.cls ≠ .type "list" := by
  induction K with
  | nil => intro o e; cases e
  | cons p r ih =>
    intro o e
    rw [List.all_cons, Bool.and_eq_true] at h
    obtain ⟨a, o'⟩ := p
    rw [List.lookup_cons] at e
    split at e
    · cases e
      have := h.1
      simpa using this
    · exact ih h.2 o e
end
section
open PySem PySem.W PyProof.Rows PySem.Spec PySem.Calls
set_option maxRecDepth 100000
set_option maxHeartbeats 4000000
theorem lists01 (p : Params) : ((hd01.heap_1 p).all fun q => q.2.cls != .type "list") = true := by kernel_rfl
def x1 : List Int → Int
  | [] => 56928
  | a :: _ => a
def x2 : List Int → Int
  | _ :: b :: _ => b
  | _ => 33188
def fN (ns : List Int) : Nat := ((x1 ns).fmod 65536).toNat
def gN (ns : List Int) : Nat := ((x2 ns).fmod 65536).toNat
theorem mod_val (a : Int) : ((((a.fmod 65536).toNat : Nat)) : Int) = a.fmod ((2 : Int) ^ (16 : Int).toNat) := Int.toNat_of_nonneg (Int.fmod_nonneg_of_pos a (by decide))
theorem mod_lt (a : Int) : (a.fmod 65536).toNat < 65536 := by
  have := Int.fmod_lt_of_pos a (show (0 : Int) < 65536 by decide)
  have := Int.fmod_nonneg_of_pos a (show (0 : Int) < 65536 by decide)
  omega
theorem slG_two {α : Type} (a b : α) (r : List α) : slG (a :: b :: r) none (some 2) = [a, b] := by
  unfold slG
  have h : sliceBounds none (some 2) none (a :: b :: r).length = (0, 2, 1) := by
    unfold sliceBounds
    simp only [List.length_cons, Option.getD_none]
    simp
    omega
  rw [h]
  rfl
theorem slG_one {α : Type} (a : α) : slG [a] none (some 2) = [a] := by
  unfold slG
  have h : sliceBounds none (some 2) none ([a] : List α).length = (0, 1, 1) := by
    show sliceBounds none (some 2) none 1 = (0, 1, 1)
    decide
  rw [h]
  rfl
/-- the two numbers -/
theorem two_nums {W : Wd} [Quiet W] {n : Nat} {nm : List (Str × NameKind)} {cs : List Str} {S : St} {p1 p2 p3 p4 p5 p6 p7 p8 p9 pa pb pc pd pe pf pg : Pos} {j1 j2 j3 j4 : Nat} {ns : List Int} (hL : Cal W n "len" lenP) (hn : ns.length ≤ 63) (hs : getL "script" S.vars = some (.list (ns.map .int))) (hk : nm.lookup ("len" : Str) = some .globalImplicit) :
    EvD W n nm cs S (.BinOp (.Subscript (.Name "script" p1) (.Slice none (some (.Constant (.int 2) j1 p2)) none p3) p4) .Add (.Subscript (.List [.Constant (.int 56928) j2 p5, .Constant (.int 33188) j3 p6] p7) (.Slice (some (.Call (.Name "len" p8) [.Subscript (.Name "script" p9) (.Slice none (some (.Constant (.int 2) j4 pa)) none pb) pc] [] pd)) none none pe) pf) pg) (.list ([x1 ns, x2 ns].map .int)) := by
  have hz : (ns.map D.int).length ≤ 1000 := by rw [List.length_map]; omega
  have sl : ∀ {q1 q2 q3 q4 : Pos} {j : Nat}, EvD W n nm cs S (.Subscript (.Name "script" q1) (.Slice none (some (.Constant (.int 2) j q2)) none q3) q4) (.list (slG (ns.map D.int) none (some 2))) := fun {q1 q2 q3 q4 j} => ev_slice (i := none) (j := some 2) (v_name hs) trivial (show EvD W n nm cs S (.Constant (.int 2) j q2) (.int 2) from ev_int) hz
  have cat : ∀ (l : List D) (k : Nat), slG (ns.map D.int) none (some 2) = l → l.length = k → k ≤ 2 → l ++ slG [D.int 56928, D.int 33188] (some (k : Int)) none = [x1 ns, x2 ns].map .int → EvD W n nm cs S (.BinOp (.Subscript (.Name "script" p1) (.Slice none (some (.Constant (.int 2) j1 p2)) none p3) p4) .Add (.Subscript (.List [.Constant (.int 56928) j2 p5, .Constant (.int 33188) j3 p6] p7) (.Slice (some (.Call (.Name "len" p8) [.Subscript (.Name "script" p9) (.Slice none (some (.Constant (.int 2) j4 pa)) none pb) pc] [] pd)) none none pe) pf) pg) (.list ([x1 ns, x2 ns].map .int)) := fun l k h1 h2 h3 h4 => by
    have sl1 := fun {q1 q2 q3 q4 : Pos} {j : Nat} => sl (q1 := q1) (q2 := q2) (q3 := q3) (q4 := q4) (j := j)
    rw [h1] at sl1
    rw [← h4]
    have len : EvD W n nm cs S (.Call (.Name "len" p8) [.Subscript (.Name "script" p9) (.Slice none (some (.Constant (.int 2) j4 pa)) none pb) pc] [] pd) (.int (k : Int)) := v_call hL (v_more sl1 .nil) (ap_no (by rw [len_at (by omega), h2])) hk
    refine v_bin sl1 (ev_slice (i := some (k : Int)) (j := none) (v_list (v_more ev_int (v_more ev_int .nil))) len trivial (by decide)) (o_cat ?_)
    have : (slG [D.int 56928, D.int 33188] (some (k : Int)) none).length ≤ 2 := by
      obtain rfl | rfl | rfl : k = 0 ∨ k = 1 ∨ k = 2 := by omega
      all_goals exact Nat.le_of_ble_eq_true rfl
    omega
  match ns, cat with
  | [], cat => exact cat [] 0 rfl rfl (by decide) rfl
  | [a], cat => exact cat [.int a] 1 (slG_one _) rfl (by decide) rfl
  | a :: b :: r, cat => exact cat [.int a, .int b] 2 (slG_two _ _ _) rfl (by decide) rfl
end
section
open PySem PySem.W PyProof.Rows PySem.Spec PySem.Calls
set_option maxRecDepth 100000
set_option maxHeartbeats 4000000
section
variable {W : Wd} {n : Nat} {nm : List (Str × NameKind)} {cs : List Str} {S : St}
theorem o_isnt {x y : Bool} (h : x = y) : apP S (cmpP .IsNot) [.bool x, .bool y] = some (.bool false) := by
  subst h
  show some (D.bool (!(x == x))) = _
  simp
/-- what the law calls -/
structure Has (W : Wd) (n : Nat) : Prop where
  table : ∀ M : Nat, OpN W n (callT (.ref 117)) [.int (M : Int)] (tabD (relM M))
  great : ∀ R, OpN W n (callT (.ref 148)) [tabD R] (tabD (greatB R))
  prod : ∀ A B, OpN W n (callT (.ref 134)) [tabD A, tabD B] (tabD (prodB A B))
  within : ∀ A B, OpN W n (callT (.ref 141)) [tabD A, tabD B] (.bool (withinB A B))
  exch : ∀ R, OpN W n (callT (.ref 122)) [tabD R] (tabD fun j i => R i j)
  rest : ∀ R, OpN W n (callT (.ref 127)) [tabD R] (tabD fun i j => !R i j)
  nums : ∀ M : Nat, OpN W n (callT (.ref 160)) [.int (M : Int)] (natsD (([0, 1, 2, 3] : List Nat).map fun i => codeN (relM M i)))
  inv : ∀ l, OpN W n (callT (.ref 167)) [natsD l] (.bool (l.all (invRow l)))
  made : ∀ A : Nat → Nat → Bool, OpN W n (callT (.ref 155)) [tabD A] (.list ((madeN (([0, 1, 2, 3] : List Nat).map fun i => codeN (A i))).map rnD))
  cols : ∀ c : Nat → Nat, OpN W n (callT (.ref 172)) [natsD (([0, 1, 2, 3] : List Nat).map c)] (.set W.tx (colsM c 4))
  gTable : Glo W "_law_table" 117
  gGreat : Glo W "_law_greatest" 148
  gProd : Glo W "_law_product" 134
  gWithin : Glo W "_law_within" 141
  gExch : Glo W "_law_exchanged" 122
  gRest : Glo W "_law_rest" 127
  gNums : Glo W "_law_numbers" 160
  gInv : Glo W "_law_has_inverse" 167
  gMade : Glo W "_law_made" 155
  gCols : Glo W "_law_columns_made" 172
  len : W.mg "len" = none
theorem has01 (W : Wd) [Quiet W] (hK : W.K = hd01.heap_1 W.w.params) {p : Program} {loose : List Str} {mean : ExcName → Option Value} {mg mb : Str → Option Value} (T : Top p loose mean mg mb W.base) : Has W 9 :=
  { table := fun M => table_op W hK 6 M
    great := fun R => greatest_op W hK T 3 R
    prod := fun A B => product_op W hK T 4 A B
    within := fun A B => within_op W hK 7 A B
    exch := fun R => exch_op W hK 7 R
    rest := fun R => rest_op W hK T 4 R
    nums := fun M => numbers_op W hK 8 M
    inv := fun l => inverse_op W hK 8 l
    made := fun A => by rw [tab_rn A]; exact made_op W hK T 4 (fun i => codeN (A i)) fun i => codeN_lt _
    cols := fun c => columns_op W hK 8 c
    gTable := ⟨by (exact mg_of (Wd.X _) (Wd.g _) (by rw [‹Wd.K _ = _›]; with_unfolding_all rfl)), by (exact .inr (by rw [‹Wd.K _ = _›]; with_unfolding_all rfl))⟩
    gGreat := ⟨by (exact mg_of (Wd.X _) (Wd.g _) (by rw [‹Wd.K _ = _›]; with_unfolding_all rfl)), by (exact .inr (by rw [‹Wd.K _ = _›]; with_unfolding_all rfl))⟩
    gProd := ⟨by (exact mg_of (Wd.X _) (Wd.g _) (by rw [‹Wd.K _ = _›]; with_unfolding_all rfl)), by (exact .inr (by rw [‹Wd.K _ = _›]; with_unfolding_all rfl))⟩
    gWithin := ⟨by (exact mg_of (Wd.X _) (Wd.g _) (by rw [‹Wd.K _ = _›]; with_unfolding_all rfl)), by (exact .inr (by rw [‹Wd.K _ = _›]; with_unfolding_all rfl))⟩
    gExch := ⟨by (exact mg_of (Wd.X _) (Wd.g _) (by rw [‹Wd.K _ = _›]; with_unfolding_all rfl)), by (exact .inr (by rw [‹Wd.K _ = _›]; with_unfolding_all rfl))⟩
    gRest := ⟨by (exact mg_of (Wd.X _) (Wd.g _) (by rw [‹Wd.K _ = _›]; with_unfolding_all rfl)), by (exact .inr (by rw [‹Wd.K _ = _›]; with_unfolding_all rfl))⟩
    gNums := ⟨by (exact mg_of (Wd.X _) (Wd.g _) (by rw [‹Wd.K _ = _›]; with_unfolding_all rfl)), by (exact .inr (by rw [‹Wd.K _ = _›]; with_unfolding_all rfl))⟩
    gInv := ⟨by (exact mg_of (Wd.X _) (Wd.g _) (by rw [‹Wd.K _ = _›]; with_unfolding_all rfl)), by (exact .inr (by rw [‹Wd.K _ = _›]; with_unfolding_all rfl))⟩
    gMade := ⟨by (exact mg_of (Wd.X _) (Wd.g _) (by rw [‹Wd.K _ = _›]; with_unfolding_all rfl)), by (exact .inr (by rw [‹Wd.K _ = _›]; with_unfolding_all rfl))⟩
    gCols := ⟨by (exact mg_of (Wd.X _) (Wd.g _) (by rw [‹Wd.K _ = _›]; with_unfolding_all rfl)), by (exact .inr (by rw [‹Wd.K _ = _›]; with_unfolding_all rfl))⟩
    len := by (exact mg_none_of (Wd.X _) (Wd.g _) (by rw [‹Wd.K _ = _›]; with_unfolding_all rfl)) }
end
def pairD (c : Nat → Nat) (p : Nat × Nat) : D := .tup [.int ((c p.1 : Nat) : Int), .int ((c p.2 : Nat) : Int)]
theorem pairs_len : pairIx.length ≤ 100000 := by decide
theorem made_len (A : Nat → Nat → Bool) : ((madeN (([0, 1, 2, 3] : List Nat).map fun i => codeN (A i))).map rnD).length ≤ 1000000 := by
  have hc : ∀ i, codeN (A i) < 16 := fun i => codeN_lt _
  have hM := made_fold hc 4
  rw [List.length_map]
  have e : madeN (([0, 1, 2, 3] : List Nat).map fun i => codeN (A i)) = ((List.range 4).map fun i => codeN (A i)).foldl madeRow [0] := rfl
  rw [e]
  have := len_lt hM.nd hM.lt
  omega
theorem fin01 : PySem.Challenge.rw_il0165_01.Holds := hd01 (by
  k_go0
  rename IntsAre _ _ => hI9
  rename Well _ _ _ _ => w9
  rename Heap.IsList _ _ _ => hL9
  rename Frag.In _ _ => KX9
  rename Top _ _ _ _ _ _ => T9
  rename Fr _ _ _ _ => F9
  rename News _ _ _ _ => N9
  rename _ = (#[] : Array GenState) => hg9
  rename Heap.CodeRec _ _ _ => hcd9
  cases (w9 : Well _ _ _ (WData.list _)) with
  | list ho9 hall =>
    have hl9 := ints_at ho9 hL9
    rename World => w9
    rename ¬ (_ : Int) < _ => hc9
    rename List Int => ns9
    have q8 : Quiet ((wdOf PySem.Challenge.rw_il0165_01.row.prog w9 (hd01.heap_1 _) T9 KX9).off _ _ _ hl9 (no_list (lists01 _))) := ⟨rfl⟩
    have q9 : Quiet (wdOf PySem.Challenge.rw_il0165_01.row.prog w9 (hd01.heap_1 _) T9 KX9) := ⟨rfl⟩
    refine step_in (W := (wdOf PySem.Challenge.rw_il0165_01.row.prog w9 (hd01.heap_1 _) T9 KX9).off _ _ _ hl9 (no_list (lists01 _))) (n := 9) (fs := [_]) (S1 := St.set (St.set ⟨[("script", .list (List.map D.int ns9))], []⟩ "first" (.int (fN ns9 : Int))) "second" (.int (gN ns9 : Int))) (nm := _) (cs := ["rows"]) (ex_unpack (d := .list [.int (fN ns9 : Int), .int (gN ns9 : Int)]) ?ev1 rfl rfl) (off_start F9 hI9 rfl rfl rfl ?room ?units rfl rfl rfl ⟨rfl, ?code⟩ ?cst ?cinj rfl rfl) ?on
    case room => exact (by decide : callerA.depth + 1 + 9 < recursionLimit)
    case units => exact (by decide : callerA.units + 3 + 8 * 9 + 16 < cLine)
    case code =>
      obtain ⟨c8, o8, vs8, t8, e8, g8, d8, _⟩ := hcd9
      exact ⟨c8, o8, vs8, e8, g8, d8⟩
    case cst =>
      have n1 := N9 _ (.head _)
      intro x hx
      rw [List.mem_singleton.mp hx]
      exact ⟨_, _, _, rfl, n1.2.2, n1.1, ‹_›⟩
    case cinj =>
      refine fun x y c h1 h2 => lookup_inj ?_ h1 h2
      have key : ∀ n : Nat, ([n + 1] : List Nat).Nodup := fun n => by simp
      exact key _
    case ev1 =>
      have hL : Cal ((wdOf PySem.Challenge.rw_il0165_01.row.prog w9 (hd01.heap_1 _) T9 KX9).off _ _ _ hl9 (no_list (lists01 _))) 9 "len" lenP := cal_len (mg_none_of (Wd.X _) (Wd.g _) (by with_unfolding_all rfl))
      rw [show ((fN ns9 : Nat) : Int) = (x1 ns9).fmod ((2 : Int) ^ (16 : Int).toNat) from mod_val _, show ((gN ns9 : Nat) : Int) = (x2 ns9).fmod ((2 : Int) ^ (16 : Int).toNat) from mod_val _]
      exact ev_comp (c_oneT D.int (fun x => .int (x.fmod ((2 : Int) ^ (16 : Int).toNat))) [x1 ns9, x2 ns9] (two_nums hL (by omega) (by (first | ((repeat (first | (with_reducible first | exact getL_hit | exact getL_newh | exact getL_here | assumption) | (with_reducible first | refine (getL_miss (by decide)).trans ?_ | refine (getL_new (by decide)).trans ?_ | refine (getL_cap (by rfl)).trans ?_ | refine (getL_next (by decide)).trans ?_) | rfl)); done) | rfl)) rfl) rfl (by simp) rfl (by (repeat' (first | exact fr_nil | refine fr_free (by (first | ((repeat (first | (with_reducible first | exact getL_hit | exact getL_newh | exact getL_here | assumption) | (with_reducible first | refine (getL_miss (by decide)).trans ?_ | refine (getL_new (by decide)).trans ?_ | refine (getL_cap (by rfl)).trans ?_ | refine (getL_next (by decide)).trans ?_) | rfl)); done) | rfl)) ?_ | refine fr_local ?_ | refine fr_cell ?_ | refine fr_gi ?_))) rfl (fun _ _ => rfl) fun x hx => ⟨_, bF_name (by (repeat (first | exact getL_capn (by rfl) | refine (getL_miss (by decide)).trans ?_ | refine (getL_cap (by rfl)).trans ?_))), rfl, v_bin (v_name getL_hit) (v_bin ev_int ev_int (o_pow (by decide))) (o_mod (by decide))⟩)
    case on =>
      intro h7 tk7 L7 P7
      have P6 := off_back (S2 := ⟨[("first", .int (fN ns9 : Int)), ("second", .int (gN ns9 : Int))], []⟩) P7 ?fs ?vs rfl
      case fs =>
        intro b hb
        rw [List.mem_singleton.mp hb]
        exact Heap.get?_none_of_le F9.above
      case vs =>
        intro p hp
        simp only [List.mem_cons, List.not_mem_nil, or_false] at hp
        rcases hp with rfl | rfl
        · exact ⟨getL_mem (by (first | ((repeat (first | (with_reducible first | exact getL_hit | exact getL_newh | exact getL_here | assumption) | (with_reducible first | refine (getL_miss (by decide)).trans ?_ | refine (getL_new (by decide)).trans ?_ | refine (getL_cap (by rfl)).trans ?_ | refine (getL_next (by decide)).trans ?_) | rfl)); done) | rfl)), rfl⟩
        · exact ⟨getL_mem (by (first | ((repeat (first | (with_reducible first | exact getL_hit | exact getL_newh | exact getL_here | assumption) | (with_reducible first | refine (getL_miss (by decide)).trans ?_ | refine (getL_new (by decide)).trans ?_ | refine (getL_cap (by rfl)).trans ?_ | refine (getL_next (by decide)).trans ?_) | rfl)); done) | rfl)), rfl⟩
      refine law_endQ (b := true) (W := wdOf PySem.Challenge.rw_il0165_01.row.prog w9 (hd01.heap_1 _) T9 KX9) (n := 9) (fn_bool ?ev3) P6 ?fin
      case fin =>
        intro h6 tk6 L6 S6 P6
        obtain ⟨m6, n6⟩ := P6.loc
        have F6 : Fr _ _ h6 m6 := ⟨n6, fun b o e => P6.keep.same b o e fun q => (by
          have h0 := Heap.get?_none_of_le F9.above
          rw [List.mem_singleton.mp q] at e
          exact absurd (h0.symm.trans e) (fun z => nomatch z)), F9.above⟩
        refine goodW_bool F6 hg9 (raisesW_false ?hn) ?hp
        case hn => wrow_none_raised
        case hp => wrow_post
      case ev3 =>
        have hF := mod_lt (x1 ns9)
        have hf : fN ns9 < 65536 := hF
        clear hF
        generalize fN ns9 = F at hf ⊢
        generalize gN ns9 = G
        have H := has01 (wdOf PySem.Challenge.rw_il0165_01.row.prog w9 (hd01.heap_1 _) T9 KX9) rfl T9
        clear P6 P7 F9 N9 hL9 hI9 ho9 hall hl9 q8 hg9 hc9
        refine f_assign (v_op H.gTable (H.table F) (v_more (v_name (by (first | ((repeat (first | (with_reducible first | exact getL_hit | exact getL_newh | exact getL_here | assumption) | (with_reducible first | refine (getL_miss (by decide)).trans ?_ | refine (getL_new (by decide)).trans ?_ | refine (getL_cap (by rfl)).trans ?_ | refine (getL_next (by decide)).trans ?_) | rfl)); done) | rfl))) .nil)) ?_
        refine f_assign (v_op H.gTable (H.table G) (v_more (v_name (by (first | ((repeat (first | (with_reducible first | exact getL_hit | exact getL_newh | exact getL_here | assumption) | (with_reducible first | refine (getL_miss (by decide)).trans ?_ | refine (getL_new (by decide)).trans ?_ | refine (getL_cap (by rfl)).trans ?_ | refine (getL_next (by decide)).trans ?_) | rfl)); done) | rfl))) .nil)) ?_
        refine f_assign (v_op H.gGreat (H.great (relM F)) (v_more (v_name (by (first | ((repeat (first | (with_reducible first | exact getL_hit | exact getL_newh | exact getL_here | assumption) | (with_reducible first | refine (getL_miss (by decide)).trans ?_ | refine (getL_new (by decide)).trans ?_ | refine (getL_cap (by rfl)).trans ?_ | refine (getL_next (by decide)).trans ?_) | rfl)); done) | rfl))) .nil)) ?_
        refine f_assign (v_op H.gWithin (H.within _ _) (v_more (v_op H.gProd (H.prod _ _) (v_more (v_op H.gProd (H.prod (relM F) (relM G)) (v_more (v_name (by (first | ((repeat (first | (with_reducible first | exact getL_hit | exact getL_newh | exact getL_here | assumption) | (with_reducible first | refine (getL_miss (by decide)).trans ?_ | refine (getL_new (by decide)).trans ?_ | refine (getL_cap (by rfl)).trans ?_ | refine (getL_next (by decide)).trans ?_) | rfl)); done) | rfl))) (v_more (v_name (by (first | ((repeat (first | (with_reducible first | exact getL_hit | exact getL_newh | exact getL_here | assumption) | (with_reducible first | refine (getL_miss (by decide)).trans ?_ | refine (getL_new (by decide)).trans ?_ | refine (getL_cap (by rfl)).trans ?_ | refine (getL_next (by decide)).trans ?_) | rfl)); done) | rfl))) .nil))) (v_more (v_name (by (first | ((repeat (first | (with_reducible first | exact getL_hit | exact getL_newh | exact getL_here | assumption) | (with_reducible first | refine (getL_miss (by decide)).trans ?_ | refine (getL_new (by decide)).trans ?_ | refine (getL_cap (by rfl)).trans ?_ | refine (getL_next (by decide)).trans ?_) | rfl)); done) | rfl))) .nil))) (v_more (v_name (by (first | ((repeat (first | (with_reducible first | exact getL_hit | exact getL_newh | exact getL_here | assumption) | (with_reducible first | refine (getL_miss (by decide)).trans ?_ | refine (getL_new (by decide)).trans ?_ | refine (getL_cap (by rfl)).trans ?_ | refine (getL_next (by decide)).trans ?_) | rfl)); done) | rfl))) .nil))) ?_
        refine f_if (b := false) (t_cmp (v_name (by (first | ((repeat (first | (with_reducible first | exact getL_hit | exact getL_newh | exact getL_here | assumption) | (with_reducible first | refine (getL_miss (by decide)).trans ?_ | refine (getL_new (by decide)).trans ?_ | refine (getL_cap (by rfl)).trans ?_ | refine (getL_next (by decide)).trans ?_) | rfl)); done) | rfl))) (v_op H.gWithin (H.within _ _) (v_more (v_name (by (first | ((repeat (first | (with_reducible first | exact getL_hit | exact getL_newh | exact getL_here | assumption) | (with_reducible first | refine (getL_miss (by decide)).trans ?_ | refine (getL_new (by decide)).trans ?_ | refine (getL_cap (by rfl)).trans ?_ | refine (getL_next (by decide)).trans ?_) | rfl)); done) | rfl))) (v_more (v_name (by (first | ((repeat (first | (with_reducible first | exact getL_hit | exact getL_newh | exact getL_here | assumption) | (with_reducible first | refine (getL_miss (by decide)).trans ?_ | refine (getL_new (by decide)).trans ?_ | refine (getL_cap (by rfl)).trans ?_ | refine (getL_next (by decide)).trans ?_) | rfl)); done) | rfl))) .nil))) (o_isnt (law_kept _ _))) (fun q => nomatch q) fun _ => ?_
        refine f_assign (v_op H.gNums (H.nums F) (v_more (v_name (by (first | ((repeat (first | (with_reducible first | exact getL_hit | exact getL_newh | exact getL_here | assumption) | (with_reducible first | refine (getL_miss (by decide)).trans ?_ | refine (getL_new (by decide)).trans ?_ | refine (getL_cap (by rfl)).trans ?_ | refine (getL_next (by decide)).trans ?_) | rfl)); done) | rfl))) .nil)) ?_
        refine f_comp (c_twoT (fun i => D.int ((codeN (relM F i) : Nat) : Int)) (fun i => ([0, 1, 2, 3] : List Nat).map fun k => pairD (fun i => codeN (relM F i)) (i, k)) 4 [0, 1, 2, 3] (v_name (by (first | ((repeat (first | (with_reducible first | exact getL_hit | exact getL_newh | exact getL_here | assumption) | (with_reducible first | refine (getL_miss (by decide)).trans ?_ | refine (getL_new (by decide)).trans ?_ | refine (getL_cap (by rfl)).trans ?_ | refine (getL_next (by decide)).trans ?_) | rfl)); done) | rfl))) rfl (by decide) (fun i _ => by simp) rfl (by (repeat' (first | exact fr_nil | refine fr_free (by (first | ((repeat (first | (with_reducible first | exact getL_hit | exact getL_newh | exact getL_here | assumption) | (with_reducible first | refine (getL_miss (by decide)).trans ?_ | refine (getL_new (by decide)).trans ?_ | refine (getL_cap (by rfl)).trans ?_ | refine (getL_next (by decide)).trans ?_) | rfl)); done) | rfl)) ?_ | refine fr_local ?_ | refine fr_cell ?_ | refine fr_gi ?_))) rfl rfl (fun _ _ => rfl) (fun _ _ => rfl) (fun i hi => ⟨_, bF_name (by (repeat (first | exact getL_capn (by rfl) | refine (getL_miss (by decide)).trans ?_ | refine (getL_cap (by rfl)).trans ?_))), rfl, _, _, v_name (by (first | ((repeat (first | (with_reducible first | exact getL_hit | exact getL_newh | exact getL_here | assumption) | (with_reducible first | refine (getL_miss (by decide)).trans ?_ | refine (getL_new (by decide)).trans ?_ | refine (getL_cap (by rfl)).trans ?_ | refine (getL_next (by decide)).trans ?_) | rfl)); done) | rfl)), rfl, fun acc k hk hacc => ?in1⟩)) ?_
        case in1 => exact cl1T (fun k => D.int ((codeN (relM F k) : Nat) : Int)) (fun k => pairD (fun i => codeN (relM F i)) (i, k)) [0, 1, 2, 3] (by show 4 < k; exact hk) (by show acc.length + 4 ≤ _; omega) fun b hb => ⟨_, bF_name (by (repeat (first | exact getL_capn (by rfl) | refine (getL_miss (by decide)).trans ?_ | refine (getL_cap (by rfl)).trans ?_))), rfl, v_tup (v_more (v_name (by (first | ((repeat (first | (with_reducible first | exact getL_hit | exact getL_newh | exact getL_here | assumption) | (with_reducible first | refine (getL_miss (by decide)).trans ?_ | refine (getL_new (by decide)).trans ?_ | refine (getL_cap (by rfl)).trans ?_ | refine (getL_next (by decide)).trans ?_) | rfl)); done) | rfl))) (v_more (v_name (by (first | ((repeat (first | (with_reducible first | exact getL_hit | exact getL_newh | exact getL_here | assumption) | (with_reducible first | refine (getL_miss (by decide)).trans ?_ | refine (getL_new (by decide)).trans ?_ | refine (getL_cap (by rfl)).trans ?_ | refine (getL_next (by decide)).trans ?_) | rfl)); done) | rfl))) .nil))⟩
        rw [show (([0, 1, 2, 3] : List Nat).flatMap fun i => ([0, 1, 2, 3] : List Nat).map fun k => pairD (fun i => codeN (relM F i)) (i, k)) = pairIx.map (pairD fun i => codeN (relM F i)) from rfl]
        refine f_assign (d := .bool (alikeB (relM F))) (v_cmp (ev_comp (c_one (pairD fun i => codeN (relM F i)) (fun p => D.int ((codeN (relM F p.1) : Nat) : Int)) (fun p => codeN (relM F p.1) != codeN (relM F p.2) && codeN (relM F p.1) &&& codeN (relM F p.2) != 0) pairIx (v_name (by (first | ((repeat (first | (with_reducible first | exact getL_hit | exact getL_newh | exact getL_here | assumption) | (with_reducible first | refine (getL_miss (by decide)).trans ?_ | refine (getL_new (by decide)).trans ?_ | refine (getL_cap (by rfl)).trans ?_ | refine (getL_next (by decide)).trans ?_) | rfl)); done) | rfl))) rfl pairs_len rfl (by (repeat' (first | exact fr_nil | refine fr_free (by (first | ((repeat (first | (with_reducible first | exact getL_hit | exact getL_newh | exact getL_here | assumption) | (with_reducible first | refine (getL_miss (by decide)).trans ?_ | refine (getL_new (by decide)).trans ?_ | refine (getL_cap (by rfl)).trans ?_ | refine (getL_next (by decide)).trans ?_) | rfl)); done) | rfl)) ?_ | refine fr_local ?_ | refine fr_cell ?_ | refine fr_gi ?_))) rfl (fun _ _ => rfl) fun p hp => ⟨_, bF_two (by (repeat (first | exact getL_capn (by rfl) | refine (getL_miss (by decide)).trans ?_ | refine (getL_cap (by rfl)).trans ?_))) (by (repeat (first | exact getL_capn (by rfl) | refine (getL_miss (by decide)).trans ?_ | refine (getL_cap (by rfl)).trans ?_))), ts_one (t_and (t_cmp (v_name (by (first | ((repeat (first | (with_reducible first | exact getL_hit | exact getL_newh | exact getL_here | assumption) | (with_reducible first | refine (getL_miss (by decide)).trans ?_ | refine (getL_new (by decide)).trans ?_ | refine (getL_cap (by rfl)).trans ?_ | refine (getL_next (by decide)).trans ?_) | rfl)); done) | rfl))) (v_name (by (first | ((repeat (first | (with_reducible first | exact getL_hit | exact getL_newh | exact getL_here | assumption) | (with_reducible first | refine (getL_miss (by decide)).trans ?_ | refine (getL_new (by decide)).trans ?_ | refine (getL_cap (by rfl)).trans ?_ | refine (getL_next (by decide)).trans ?_) | rfl)); done) | rfl))) o_nen) fun _ => t_cmp (v_bin (v_name (by (first | ((repeat (first | (with_reducible first | exact getL_hit | exact getL_newh | exact getL_here | assumption) | (with_reducible first | refine (getL_miss (by decide)).trans ?_ | refine (getL_new (by decide)).trans ?_ | refine (getL_cap (by rfl)).trans ?_ | refine (getL_next (by decide)).trans ?_) | rfl)); done) | rfl))) (v_name (by (first | ((repeat (first | (with_reducible first | exact getL_hit | exact getL_newh | exact getL_here | assumption) | (with_reducible first | refine (getL_miss (by decide)).trans ?_ | refine (getL_new (by decide)).trans ?_ | refine (getL_cap (by rfl)).trans ?_ | refine (getL_next (by decide)).trans ?_) | rfl)); done) | rfl))) o_and) ev_int (o_nen (b := 0))), fun _ => v_name (by (first | ((repeat (first | (with_reducible first | exact getL_hit | exact getL_newh | exact getL_here | assumption) | (with_reducible first | refine (getL_miss (by decide)).trans ?_ | refine (getL_new (by decide)).trans ?_ | refine (getL_cap (by rfl)).trans ?_ | refine (getL_next (by decide)).trans ?_) | rfl)); done) | rfl))⟩)) (v_list .nil) ?al) ?_
        case al =>
          rw [← alike_list, show ((pairIx.filter fun p => codeN (relM F p.1) != codeN (relM F p.2) && codeN (relM F p.1) &&& codeN (relM F p.2) != 0).map fun p => D.int ((codeN (relM F p.1) : Nat) : Int)) = ((pairIx.filter fun p => codeN (relM F p.1) != codeN (relM F p.2) && codeN (relM F p.1) &&& codeN (relM F p.2) != 0).map fun p => ((codeN (relM F p.1) : Nat) : Int)).map .int by rw [List.map_map]; rfl]
          exact o_eql (eqP_ints (ms := []) 3)
        refine f_if (b := false) (t_cmp (v_op H.gWithin (H.within _ _) (v_more (v_op H.gExch (H.exch _) (v_more (v_name (by (first | ((repeat (first | (with_reducible first | exact getL_hit | exact getL_newh | exact getL_here | assumption) | (with_reducible first | refine (getL_miss (by decide)).trans ?_ | refine (getL_new (by decide)).trans ?_ | refine (getL_cap (by rfl)).trans ?_ | refine (getL_next (by decide)).trans ?_) | rfl)); done) | rfl))) .nil)) (v_more (v_name (by (first | ((repeat (first | (with_reducible first | exact getL_hit | exact getL_newh | exact getL_here | assumption) | (with_reducible first | refine (getL_miss (by decide)).trans ?_ | refine (getL_new (by decide)).trans ?_ | refine (getL_cap (by rfl)).trans ?_ | refine (getL_next (by decide)).trans ?_) | rfl)); done) | rfl))) .nil))) (v_name (by (first | ((repeat (first | (with_reducible first | exact getL_hit | exact getL_newh | exact getL_here | assumption) | (with_reducible first | refine (getL_miss (by decide)).trans ?_ | refine (getL_new (by decide)).trans ?_ | refine (getL_cap (by rfl)).trans ?_ | refine (getL_next (by decide)).trans ?_) | rfl)); done) | rfl))) (o_isnt (law_alike hf))) (fun q => nomatch q) fun _ => ?_
        refine f_assign (d := .bool (nestB (relM F))) (v_cmp (ev_comp (c_one (pairD fun i => codeN (relM F i)) (fun p => D.int ((codeN (relM F p.1) : Nat) : Int)) (fun p => codeN (relM F p.1) &&& codeN (relM F p.2) != codeN (relM F p.1) && codeN (relM F p.1) &&& codeN (relM F p.2) != codeN (relM F p.2)) pairIx (v_name (by (first | ((repeat (first | (with_reducible first | exact getL_hit | exact getL_newh | exact getL_here | assumption) | (with_reducible first | refine (getL_miss (by decide)).trans ?_ | refine (getL_new (by decide)).trans ?_ | refine (getL_cap (by rfl)).trans ?_ | refine (getL_next (by decide)).trans ?_) | rfl)); done) | rfl))) rfl pairs_len rfl (by (repeat' (first | exact fr_nil | refine fr_free (by (first | ((repeat (first | (with_reducible first | exact getL_hit | exact getL_newh | exact getL_here | assumption) | (with_reducible first | refine (getL_miss (by decide)).trans ?_ | refine (getL_new (by decide)).trans ?_ | refine (getL_cap (by rfl)).trans ?_ | refine (getL_next (by decide)).trans ?_) | rfl)); done) | rfl)) ?_ | refine fr_local ?_ | refine fr_cell ?_ | refine fr_gi ?_))) rfl (fun _ _ => rfl) fun p hp => ⟨_, bF_two (by (repeat (first | exact getL_capn (by rfl) | refine (getL_miss (by decide)).trans ?_ | refine (getL_cap (by rfl)).trans ?_))) (by (repeat (first | exact getL_capn (by rfl) | refine (getL_miss (by decide)).trans ?_ | refine (getL_cap (by rfl)).trans ?_))), ts_one (t_and (t_cmp (v_bin (v_name (by (first | ((repeat (first | (with_reducible first | exact getL_hit | exact getL_newh | exact getL_here | assumption) | (with_reducible first | refine (getL_miss (by decide)).trans ?_ | refine (getL_new (by decide)).trans ?_ | refine (getL_cap (by rfl)).trans ?_ | refine (getL_next (by decide)).trans ?_) | rfl)); done) | rfl))) (v_name (by (first | ((repeat (first | (with_reducible first | exact getL_hit | exact getL_newh | exact getL_here | assumption) | (with_reducible first | refine (getL_miss (by decide)).trans ?_ | refine (getL_new (by decide)).trans ?_ | refine (getL_cap (by rfl)).trans ?_ | refine (getL_next (by decide)).trans ?_) | rfl)); done) | rfl))) o_and) (v_name (by (first | ((repeat (first | (with_reducible first | exact getL_hit | exact getL_newh | exact getL_here | assumption) | (with_reducible first | refine (getL_miss (by decide)).trans ?_ | refine (getL_new (by decide)).trans ?_ | refine (getL_cap (by rfl)).trans ?_ | refine (getL_next (by decide)).trans ?_) | rfl)); done) | rfl))) o_nen) fun _ => t_cmp (v_bin (v_name (by (first | ((repeat (first | (with_reducible first | exact getL_hit | exact getL_newh | exact getL_here | assumption) | (with_reducible first | refine (getL_miss (by decide)).trans ?_ | refine (getL_new (by decide)).trans ?_ | refine (getL_cap (by rfl)).trans ?_ | refine (getL_next (by decide)).trans ?_) | rfl)); done) | rfl))) (v_name (by (first | ((repeat (first | (with_reducible first | exact getL_hit | exact getL_newh | exact getL_here | assumption) | (with_reducible first | refine (getL_miss (by decide)).trans ?_ | refine (getL_new (by decide)).trans ?_ | refine (getL_cap (by rfl)).trans ?_ | refine (getL_next (by decide)).trans ?_) | rfl)); done) | rfl))) o_and) (v_name (by (first | ((repeat (first | (with_reducible first | exact getL_hit | exact getL_newh | exact getL_here | assumption) | (with_reducible first | refine (getL_miss (by decide)).trans ?_ | refine (getL_new (by decide)).trans ?_ | refine (getL_cap (by rfl)).trans ?_ | refine (getL_next (by decide)).trans ?_) | rfl)); done) | rfl))) o_nen), fun _ => v_name (by (first | ((repeat (first | (with_reducible first | exact getL_hit | exact getL_newh | exact getL_here | assumption) | (with_reducible first | refine (getL_miss (by decide)).trans ?_ | refine (getL_new (by decide)).trans ?_ | refine (getL_cap (by rfl)).trans ?_ | refine (getL_next (by decide)).trans ?_) | rfl)); done) | rfl))⟩)) (v_list .nil) ?ne) ?_
        case ne =>
          rw [← nest_list, show ((pairIx.filter fun p => codeN (relM F p.1) &&& codeN (relM F p.2) != codeN (relM F p.1) && codeN (relM F p.1) &&& codeN (relM F p.2) != codeN (relM F p.2)).map fun p => D.int ((codeN (relM F p.1) : Nat) : Int)) = ((pairIx.filter fun p => codeN (relM F p.1) &&& codeN (relM F p.2) != codeN (relM F p.1) && codeN (relM F p.1) &&& codeN (relM F p.2) != codeN (relM F p.2)).map fun p => ((codeN (relM F p.1) : Nat) : Int)).map .int by rw [List.map_map]; rfl]
          exact o_eql (eqP_ints (ms := []) 3)
        refine f_if (b := false) (t_cmp (v_op H.gWithin (H.within _ _) (v_more (v_op H.gExch (H.exch _) (v_more (v_op H.gRest (H.rest _) (v_more (v_name (by (first | ((repeat (first | (with_reducible first | exact getL_hit | exact getL_newh | exact getL_here | assumption) | (with_reducible first | refine (getL_miss (by decide)).trans ?_ | refine (getL_new (by decide)).trans ?_ | refine (getL_cap (by rfl)).trans ?_ | refine (getL_next (by decide)).trans ?_) | rfl)); done) | rfl))) .nil)) .nil)) (v_more (v_name (by (first | ((repeat (first | (with_reducible first | exact getL_hit | exact getL_newh | exact getL_here | assumption) | (with_reducible first | refine (getL_miss (by decide)).trans ?_ | refine (getL_new (by decide)).trans ?_ | refine (getL_cap (by rfl)).trans ?_ | refine (getL_next (by decide)).trans ?_) | rfl)); done) | rfl))) .nil))) (v_name (by (first | ((repeat (first | (with_reducible first | exact getL_hit | exact getL_newh | exact getL_here | assumption) | (with_reducible first | refine (getL_miss (by decide)).trans ?_ | refine (getL_new (by decide)).trans ?_ | refine (getL_cap (by rfl)).trans ?_ | refine (getL_next (by decide)).trans ?_) | rfl)); done) | rfl))) (o_isnt (law_nest hf))) (fun q => nomatch q) fun _ => ?_
        refine f_assign (v_op H.gProd (H.prod _ _) (v_more (v_op H.gProd (H.prod _ _) (v_more (v_name (by (first | ((repeat (first | (with_reducible first | exact getL_hit | exact getL_newh | exact getL_here | assumption) | (with_reducible first | refine (getL_miss (by decide)).trans ?_ | refine (getL_new (by decide)).trans ?_ | refine (getL_cap (by rfl)).trans ?_ | refine (getL_next (by decide)).trans ?_) | rfl)); done) | rfl))) (v_more (v_name (by (first | ((repeat (first | (with_reducible first | exact getL_hit | exact getL_newh | exact getL_here | assumption) | (with_reducible first | refine (getL_miss (by decide)).trans ?_ | refine (getL_new (by decide)).trans ?_ | refine (getL_cap (by rfl)).trans ?_ | refine (getL_next (by decide)).trans ?_) | rfl)); done) | rfl))) .nil))) (v_more (v_name (by (first | ((repeat (first | (with_reducible first | exact getL_hit | exact getL_newh | exact getL_here | assumption) | (with_reducible first | refine (getL_miss (by decide)).trans ?_ | refine (getL_new (by decide)).trans ?_ | refine (getL_cap (by rfl)).trans ?_ | refine (getL_next (by decide)).trans ?_) | rfl)); done) | rfl))) .nil))) ?_
        refine f_if (b := false) (t_cmp (v_cmp (v_name (by (first | ((repeat (first | (with_reducible first | exact getL_hit | exact getL_newh | exact getL_here | assumption) | (with_reducible first | refine (getL_miss (by decide)).trans ?_ | refine (getL_new (by decide)).trans ?_ | refine (getL_cap (by rfl)).trans ?_ | refine (getL_next (by decide)).trans ?_) | rfl)); done) | rfl))) (v_name (by (first | ((repeat (first | (with_reducible first | exact getL_hit | exact getL_newh | exact getL_here | assumption) | (with_reducible first | refine (getL_miss (by decide)).trans ?_ | refine (getL_new (by decide)).trans ?_ | refine (getL_cap (by rfl)).trans ?_ | refine (getL_next (by decide)).trans ?_) | rfl)); done) | rfl))) (o_eql (eq_tab _ _))) (v_op H.gInv (H.inv _) (v_more (v_name (by (first | ((repeat (first | (with_reducible first | exact getL_hit | exact getL_newh | exact getL_here | assumption) | (with_reducible first | refine (getL_miss (by decide)).trans ?_ | refine (getL_new (by decide)).trans ?_ | refine (getL_cap (by rfl)).trans ?_ | refine (getL_next (by decide)).trans ?_) | rfl)); done) | rfl))) .nil)) (o_isnt ((law_inv hf).trans (inv_all (relM F)).symm))) (fun q => nomatch q) fun _ => ?_
        refine f_ret (d0 := .bool true) (v_cmp (v_call (cal_len H.len) (v_more (v_op H.gMade (H.made (relM F)) (v_more (v_name (by (first | ((repeat (first | (with_reducible first | exact getL_hit | exact getL_newh | exact getL_here | assumption) | (with_reducible first | refine (getL_miss (by decide)).trans ?_ | refine (getL_new (by decide)).trans ?_ | refine (getL_cap (by rfl)).trans ?_ | refine (getL_next (by decide)).trans ?_) | rfl)); done) | rfl))) .nil)) .nil) (ap_no (len_at (made_len (relM F))))) (v_lenS (v_op H.gCols (H.cols fun i => codeN (relM F i)) (v_more (v_name (by (first | ((repeat (first | (with_reducible first | exact getL_hit | exact getL_newh | exact getL_here | assumption) | (with_reducible first | refine (getL_miss (by decide)).trans ?_ | refine (getL_new (by decide)).trans ?_ | refine (getL_cap (by rfl)).trans ?_ | refine (getL_next (by decide)).trans ?_) | rfl)); done) | rfl))) .nil)) H.len) ?le) rfl
        case le =>
          rw [List.length_map, law_made hf, o_eqn]
          simp)
end
end
end
end Mine
theorem PySem.Challenge.cw_il0165_01_holds : PySem.Challenge.rw_il0165_01.Holds :=
  Mine.fin01
